import PyProof.Rows.All
import Wide.All
import OpenK.AllK
import Wide.FinOn
import PySem.Challenge.RW_ic0002_01
open PySem PyProof.Rows
set_option Elab.async false
set_option linter.unusedVariables false
set_option linter.unusedSimpArgs false
set_option maxRecDepth 100000
namespace Mine

/-! hash, drawn tokens, keys -/
mutual
noncomputable def hashD (w : World) : PyData → Int
  | .int i => hashInt i
  | .str x => hashStr w x
  | .tuple l => reduceHash (Builtin.Tuple.tupleHashOf (hashDs w l))
  | .none => 0
  | .bool _ => 0
  | .list _ => 0
  | .dict _ => 0
noncomputable def hashDs (w : World) : List PyData → List Int
  | [] => []
  | d :: ds => hashD w d :: hashDs w ds
end
mutual
noncomputable def drawsD : PyData → Nat
  | .tuple l => drawsDs l + 1
  | .int _ => 1
  | .str _ => 1
  | .none => 1
  | .bool _ => 1
  | .list _ => 1
  | .dict _ => 1
noncomputable def drawsDs : List PyData → Nat
  | [] => 0
  | d :: ds => drawsD d + drawsDs ds
end
mutual
noncomputable def keyB : PyData → Bool
  | .int _ => true
  | .str x => PyData.strOk x
  | .tuple l => keyBs l
  | .none => false
  | .bool _ => false
  | .list _ => false
  | .dict _ => false
noncomputable def keyBs : List PyData → Bool
  | [] => true
  | d :: ds => keyB d && keyBs ds
end
/-- a key of a dict of ours: a tuple, not deep -/
noncomputable def isKey : PyData → Bool
  | .tuple l => keyBs l && decide ((PyData.tuple l).depth ≤ 4)
  | _ => false

theorem isKey_keyB {d : PyData} (h : isKey d = true) : keyB d = true := by
  cases d <;> simp_all [isKey, keyB]
theorem isKey_depth {d : PyData} (h : isKey d = true) : d.depth ≤ 4 := by
  cases d <;> simp_all [isKey]

/-! data as it lies in the heap, its lists and dicts off a set of addresses -/
mutual
inductive Den (w : World) (N : Addr → Prop) (h : Heap) : PyData → Value → Prop
  | none : Den w N h .none .none
  | bool (b : Bool) : Den w N h (.bool b) (.bool b)
  | int (i : Int) (t : Tok) : Den w N h (.int i) (.int i t)
  | str (x : Str) (t : Tok) : Den w N h (.str x) (.str x t)
  | tuple {a : Addr} {o : Obj} {vs : Array Value} {n : Nat} {ds : List PyData} : h.get? a = some o → o.cls = .type "tuple" → o.data = .seq vs n →
      DenL w N h ds vs.toList → Den w N h (.tuple ds) (.ref a)
  | list {a : Addr} {vs : Array Value} {n : Nat} {ds : List PyData} : ¬ N a → h.get? a = some ⟨.type "list", Option.none, .seq vs n, #[]⟩ →
      DenL w N h ds vs.toList → Den w N h (.list ds) (.ref a)
  | dict {a : Addr} {es : Array DictEntry} {n : Nat} {kvs : List (PyData × PyData)} : ¬ N a → h.get? a = some ⟨.type "dict", Option.none, .dict es n, #[]⟩ →
      DenE w N h kvs es.toList → (kvs.map (·.1)).Nodup → Den w N h (.dict kvs) (.ref a)
  | opn (a : Addr) : Den w N h (.dict [(.none, .int (a : Int))]) (.ref a)
inductive DenL (w : World) (N : Addr → Prop) (h : Heap) : List PyData → List Value → Prop
  | nil : DenL w N h [] []
  | cons {d : PyData} {v : Value} {ds : List PyData} {vs : List Value} : Den w N h d v → DenL w N h ds vs → DenL w N h (d :: ds) (v :: vs)
inductive DenE (w : World) (N : Addr → Prop) (h : Heap) : List (PyData × PyData) → List DictEntry → Prop
  | nil : DenE w N h [] []
  | cons {k d : PyData} {a : Addr} {v : Value} {kvs : List (PyData × PyData)} {es : List DictEntry} : isKey k = true → Den w N h k (.ref a) → Den w N h d v →
      DenE w N h kvs es → DenE w N h ((k, d) :: kvs) (⟨hashD w k, .ref a, v⟩ :: es)
end

noncomputable def TupObj (o : Obj) : Prop := o.cls = .type "tuple" ∧ ∃ vs n, o.data = .seq vs n
/-- what is off N, and every tuple, is kept -/
noncomputable def Chg (N : Addr → Prop) (h h' : Heap) : Prop := ∀ b o, h.get? b = some o → (¬ N b ∨ TupObj o) → h'.get? b = some o

theorem Chg.refl (N : Addr → Prop) (h : Heap) : Chg N h h := fun _ _ e _ => e
theorem Chg.trans {N : Addr → Prop} {h₁ h₂ h₃ : Heap} (x : Chg N h₁ h₂) (y : Chg N h₂ h₃) : Chg N h₁ h₃ := fun b o e n => y b o (x b o e n) n
theorem Chg.of {N : Addr → Prop} {h h' : Heap} (k : ∀ b o, h.get? b = some o → h'.get? b = some o) : Chg N h h' := fun b o e _ => k b o e
section
variable {w : World} {N N' : Addr → Prop} {h h' : Heap}
mutual
theorem Den.chg (c : Chg N h h') (hN : ∀ a, (h.get? a).isSome → N' a → N a) : ∀ {d : PyData} {v : Value}, Den w N h d v → Den w N' h' d v
  | _, _, .none => .none
  | _, _, .bool b => .bool b
  | _, _, .int i t => .int i t
  | _, _, .str x t => .str x t
  | _, _, .tuple e hc hd r => .tuple (c _ _ e (.inr ⟨hc, _, _, hd⟩)) hc hd (DenL.chg c hN r)
  | _, _, .list n e r => .list (fun q => n (hN _ (by rw [e]; rfl) q)) (c _ _ e (.inl n)) (DenL.chg c hN r)
  | _, _, .opn a => .opn a
  | _, _, .dict n e r k => .dict (fun q => n (hN _ (by rw [e]; rfl) q)) (c _ _ e (.inl n)) (DenE.chg c hN r) k
theorem DenL.chg (c : Chg N h h') (hN : ∀ a, (h.get? a).isSome → N' a → N a) : ∀ {ds : List PyData} {vs : List Value}, DenL w N h ds vs → DenL w N' h' ds vs
  | _, _, .nil => .nil
  | _, _, .cons x r => .cons (Den.chg c hN x) (DenL.chg c hN r)
theorem DenE.chg (c : Chg N h h') (hN : ∀ a, (h.get? a).isSome → N' a → N a) : ∀ {ds : List (PyData × PyData)} {vs : List DictEntry}, DenE w N h ds vs → DenE w N' h' ds vs
  | _, _, .nil => .nil
  | _, _, .cons i x y r => .cons i (Den.chg c hN x) (Den.chg c hN y) (DenE.chg c hN r)
end
theorem Den.keeps {d : PyData} {v : Value} (x : Den w N h d v) (k : ∀ b o, h.get? b = some o → h'.get? b = some o) : Den w N h' d v := x.chg (.of k) fun _ _ n => n
theorem Den.weaken {d : PyData} {v : Value} (x : Den w N h d v) (hN : ∀ a, (h.get? a).isSome → N' a → N a) : Den w N' h d v := x.chg (.refl _ _) hN
theorem DenL.weaken {ds : List PyData} {vs : List Value} (x : DenL w N h ds vs) (hN : ∀ a, (h.get? a).isSome → N' a → N a) : DenL w N' h ds vs := x.chg (.refl _ _) hN
theorem DenL.length : ∀ {ds : List PyData} {vs : List Value}, DenL w N h ds vs → ds.length = vs.length
  | _, _, .nil => rfl
  | _, _, .cons _ r => by rw [List.length_cons, List.length_cons, DenL.length r]
theorem DenL.append : ∀ {ds es : List PyData} {vs us : List Value}, DenL w N h ds vs → DenL w N h es us → DenL w N h (ds ++ es) (vs ++ us)
  | _, _, _, _, .nil, y => y
  | _, _, _, _, .cons x r, y => .cons x (DenL.append r y)
theorem DenL.get : ∀ {ds : List PyData} {vs : List Value} {i : Nat} {d : PyData}, DenL w N h ds vs → ds[i]? = some d → ∃ v, vs[i]? = some v ∧ Den w N h d v
  | _, _, i, d, .nil, e => by simp at e
  | _, _, 0, d, .cons x r, e => by simp at e; subst e; exact ⟨_, rfl, x⟩
  | _, _, i + 1, d, .cons _ r, e => by
    rw [List.getElem?_cons_succ] at e
    obtain ⟨v, hv, hd⟩ := DenL.get r e
    exact ⟨v, by rw [List.getElem?_cons_succ]; exact hv, hd⟩
theorem DenL.take : ∀ {ds : List PyData} {vs : List Value} (n : Nat), DenL w N h ds vs → DenL w N h (ds.take n) (vs.take n)
  | _, _, 0, _ => by simpa using DenL.nil
  | _, _, _ + 1, .nil => .nil
  | _, _, n + 1, .cons x r => .cons x (DenL.take n r)
theorem DenL.ints {ns : List Int} {vs : List Value} (x : DenL w N h (ns.map .int) vs) : IntsAre vs ns := by
  induction ns generalizing vs with
  | nil => cases x; exact .nil
  | cons n ns ih => cases x with | cons a r => cases a; exact .cons _ _ (ih r)
theorem DenL.of_ints {ns : List Int} {vs : List Value} (x : IntsAre vs ns) : DenL w N h (ns.map .int) vs := by
  induction x with
  | nil => exact .nil
  | cons _ _ _ ih => exact .cons (.int _ _) ih
end

/-! read as the library's words read it -/
mutual
noncomputable def noDict : PyData → Bool
  | .dict _ => false
  | .list l => noDicts l
  | .tuple l => noDicts l
  | .none => true
  | .bool _ => true
  | .int _ => true
  | .str _ => true
noncomputable def noDicts : List PyData → Bool
  | [] => true
  | d :: ds => noDict d && noDicts ds
end
section
variable {w : World} {N : Addr → Prop} {h : Heap}
mutual
theorem Den.reads : ∀ {d : PyData} {v : Value}, Den w N h d v → noDict d = true → ∃ as, Reads h v d as
  | _, _, .none, _ => ⟨_, .none⟩
  | _, _, .bool b, _ => ⟨_, .bool b⟩
  | _, _, .int i t, _ => ⟨_, .int i t⟩
  | _, _, .str x t, _ => ⟨_, .str x t⟩
  | _, _, .tuple e hc hd r, k => let ⟨_, q⟩ := DenL.reads r (by simpa [noDict] using k); ⟨_, .tuple e hc hd q⟩
  | _, _, .list _ e r, k => let ⟨_, q⟩ := DenL.reads r (by simpa [noDict] using k); ⟨_, .list e rfl rfl q⟩
  | _, _, .dict _ _ _ _, k => by simp [noDict] at k
  | _, _, .opn _, k => by simp [noDict] at k
theorem DenL.reads : ∀ {ds : List PyData} {vs : List Value}, DenL w N h ds vs → noDicts ds = true → ∃ as, ReadsAll h vs ds as
  | _, _, .nil, _ => ⟨_, .nil⟩
  | _, _, .cons x r, k => by
    simp only [noDicts, Bool.and_eq_true] at k
    obtain ⟨_, p⟩ := Den.reads x k.1
    obtain ⟨_, q⟩ := DenL.reads r k.2
    exact ⟨_, .cons p q⟩
end
mutual
theorem Den.uniq : ∀ {d e : PyData} {v : Value}, keyB d = true → keyB e = true → Den w N h d v → Den w N h e v → d = e
  | .int _, _, _, _, _, .int _ _, y => by cases y; rfl
  | .str _, _, _, _, _, .str _ _, y => by cases y; rfl
  | .tuple ds, e, _, kd, ke, .tuple g hc hd r, y => by
    cases y with
    | @tuple a o' vs' n' es g' hc' hd' r' =>
      rw [g] at g'; cases g'
      rw [hd] at hd'; cases hd'
      exact congrArg _ (DenL.uniq (by simpa [keyB] using kd) (by simpa [keyB] using ke) r r')
    | list _ g' _ => rw [g] at g'; cases g'; simp at hc
    | dict _ g' _ _ => rw [g] at g'; cases g'; simp at hc
    | opn _ => simp [keyB] at ke
  | .none, _, _, kd, _, _, _ => by simp [keyB] at kd
  | .bool _, _, _, kd, _, _, _ => by simp [keyB] at kd
  | .list _, _, _, kd, _, _, _ => by simp [keyB] at kd
  | .dict _, _, _, kd, _, _, _ => by simp [keyB] at kd
theorem DenL.uniq : ∀ {ds es : List PyData} {vs : List Value}, keyBs ds = true → keyBs es = true → DenL w N h ds vs → DenL w N h es vs → ds = es
  | [], _, _, _, _, .nil, y => by cases y; rfl
  | d :: ds, _, _, kd, ke, .cons x r, y => by
    cases y with
    | cons x' r' =>
      simp only [keyBs, Bool.and_eq_true] at kd ke
      rw [Den.uniq kd.1 ke.1 x x', DenL.uniq kd.2 ke.2 r r']
end
end
mutual
theorem noDict_of_keyB : ∀ {d : PyData}, keyB d = true → noDict d = true
  | .int _, _ => rfl
  | .str _, _ => rfl
  | .tuple ds, k => by simp only [noDict]; exact noDicts_of_keyBs (by simpa [keyB] using k)
  | .none, _ => rfl
  | .bool _, _ => rfl
  | .list _, kd => by simp [keyB] at kd
  | .dict _, kd => by simp [keyB] at kd
theorem noDicts_of_keyBs : ∀ {ds : List PyData}, keyBs ds = true → noDicts ds = true
  | [], _ => rfl
  | d :: ds, k => by
    simp only [keyBs, Bool.and_eq_true] at k
    simp only [noDicts, Bool.and_eq_true]
    exact ⟨noDict_of_keyB k.1, noDicts_of_keyBs k.2⟩
end
mutual
theorem canLay_of_keyB : ∀ {d : PyData}, keyB d = true → d.canLay0 = true
  | .int _, _ => rfl
  | .str _, k => by simpa [keyB, PyData.canLay0] using k
  | .tuple ds, k => by simp only [PyData.canLay0]; exact canLays_of_keyBs (by simpa [keyB] using k)
  | .none, _ => rfl
  | .bool _, _ => rfl
  | .list _, kd => by simp [keyB] at kd
  | .dict _, kd => by simp [keyB] at kd
theorem canLays_of_keyBs : ∀ {ds : List PyData}, keyBs ds = true → PyData.canLayAll0 ds = true
  | [], _ => rfl
  | d :: ds, k => by
    simp only [keyBs, Bool.and_eq_true] at k
    simp only [PyData.canLayAll0, Bool.and_eq_true]
    exact ⟨canLay_of_keyB k.1, canLays_of_keyBs k.2⟩
end
mutual
theorem eqv_keyB : ∀ {d e : PyData}, keyB d = true → keyB e = true → (PyData.eqv d e = true ↔ d = e)
  | .int i, e, _, k => by cases e <;> simp_all [PyData.eqv, keyB]
  | .str i, e, _, k => by cases e <;> simp_all [PyData.eqv, keyB]
  | .tuple ds, e, kd, k => by
    cases e with
    | tuple es =>
      rw [PyData.eqv]
      simp only [PyData.tuple.injEq]
      exact eqvAll_keyB (by simpa [keyB] using kd) (by simpa [keyB] using k)
    | _ => simp_all [PyData.eqv, keyB]
  | .none, _, kd, _ => by simp [keyB] at kd
  | .bool _, _, kd, _ => by simp [keyB] at kd
  | .list _, _, kd, _ => by simp [keyB] at kd
  | .dict _, _, kd, _ => by simp [keyB] at kd
theorem eqvAll_keyB : ∀ {ds es : List PyData}, keyBs ds = true → keyBs es = true → (PyData.eqvAll ds es = true ↔ ds = es)
  | [], es, _, _ => by cases es <;> simp [PyData.eqvAll]
  | d :: ds, es, kd, ke => by
    cases es with
    | nil => simp [PyData.eqvAll]
    | cons e es =>
      simp only [keyBs, Bool.and_eq_true] at kd ke
      simp only [PyData.eqvAll, Bool.and_eq_true, List.cons.injEq, eqv_keyB kd.1 ke.1, eqvAll_keyB kd.2 ke.2]
end
theorem shaped_of_isKey {d : PyData} (h : isKey d = true) : SeqAt.shaped d = true := by
  unfold SeqAt.shaped
  rw [canLay_of_keyB (isKey_keyB h), Bool.true_and]
  exact decide_eq_true (Nat.le_trans (isKey_depth h) (by decide))
end Mine

namespace Mine

section
variable {w : World} {N N' : Addr → Prop} {h h' : Heap}
mutual
theorem Den.keyAny : ∀ {d : PyData} {v : Value}, keyB d = true → Den w N h d v → Den w N' h d v
  | _, _, _, .int i t => .int i t
  | _, _, _, .str x t => .str x t
  | _, _, k, .tuple e hc hd r => .tuple e hc hd (DenL.keyAny (by simpa [keyB] using k) r)
  | _, _, _, .none => .none
  | _, _, _, .bool b => .bool b
  | _, _, k, .list _ _ _ => by simp [keyB] at k
  | _, _, k, .dict _ _ _ _ => by simp [keyB] at k
  | _, _, k, .opn _ => by simp [keyB] at k
theorem DenL.keyAny : ∀ {ds : List PyData} {vs : List Value}, keyBs ds = true → DenL w N h ds vs → DenL w N' h ds vs
  | _, _, _, .nil => .nil
  | _, _, k, .cons x r => by
    simp only [keyBs, Bool.and_eq_true] at k
    exact .cons (Den.keyAny k.1 x) (DenL.keyAny k.2 r)
end
theorem Den.keyMove {d : PyData} {v : Value} (k : keyB d = true) (x : Den w N h d v) (c : ∀ b o, h.get? b = some o → TupObj o → h'.get? b = some o) : Den w N' h' d v :=
  Den.keyAny k (Den.chg (N := fun _ => True) (N' := fun _ => True) (fun b o e n => c b o e (n.elim (fun n => (n trivial).elim) id)) (fun _ _ n => n) (Den.keyAny k x))
end

theorem tupleHash_len (ds : List PyData) (w : World) : (hashDs w ds) = ds.map (hashD w) := by
  induction ds with
  | nil => rfl
  | cons d ds ih => simp [hashDs, ih]

section
open Sem (wp)
variable {prog : Program} {w : World}

theorem pyHash_den {N : Addr → Prop} : ∀ (n : Nat) (d : PyData) (v : Value) (A : Around) (E : Value → Shared → Prop) (s : Shared) (Q : Int → Shared → Prop), keyB d = true → d.depth ≤ n → A.units + n < cLine → Den w N s.heap d v →
    Q (hashD w d) { s with toks := s.toks + drawsD d } → wpAny (model prog w) A (pyHash v) Q E s := by
  intro n
  induction n with
  | zero =>
    intro d v A E s Q k hd hu x hQ
    cases x with
    | int i t => exact wpAny_pyHash_int (by simpa [hashD, drawsD] using hQ)
    | str i t => exact wpAny_pyHash_str (by simpa [hashD, drawsD] using hQ)
    | tuple e hc hdd r => simp [PyData.depth] at hd
    | _ => simp [keyB] at k
  | succ n ih =>
    intro d v A E s Q k hd hu x hQ
    cases x with
    | int i t => exact wpAny_pyHash_int (by simpa [hashD, drawsD] using hQ)
    | str i t => exact wpAny_pyHash_str (by simpa [hashD, drawsD] using hQ)
    | @tuple a o items nn ds ho hc hdd hi =>
      have hT : s.TypeIs (.ref a) "tuple" := ⟨_, ho, hc⟩
      have kd : keyBs ds = true := by simpa [keyB] using k
      have dd : PyData.depthAll ds ≤ n := by simp only [PyData.depth] at hd; omega
      unfold pyHash
      first | unfold pyHashByItsType | skip
      first | refine wpAny_bind (wpAny_cRoomFor_or (.inr (by omega)) ?_) | skip
      refine wpAny_bind (wpAny_specialOf hT F.slot_tuple_hash.lookup ?_)
      show wpAny _ _ (if (some (Value.builtin "tuple.__hash__") == some Value.none) = true then _ else _) Q E s
      rw [if_neg (by rw [beq_builtin_none]; exact Bool.false_ne_true)]
      refine wpAny_bind (wpAny_specialOf hT F.slot_tuple_hash.lookup ?_)
      show wpAny _ _ (callSpecialIfBoundUnlessNone? (.ref a) "__hash__" _ >>= _) Q E s
      refine wpAny_bind (wpAny_callSpecialIfBoundUnlessNone?_slot hT F.slot_tuple_hash (wpAny_call_entry F.slot_tuple_hash hT F.entry_tuple_hash ?_ (F.args_tuple_hash_1 _)))
      show wpAny _ _ (Builtin.Tuple.tupleItemsOf (.ref a) >>= _) _ _ s
      refine wpAny_bind (wpAny_tupleItemsOf ho hdd ?_)
      refine wpAny_bind ?_
      rw [← Array.forIn_toList]
      refine wpAny_forIn_list _
        (fun rest (b : Array Int) s' => ∃ done left, ds = done ++ left ∧ DenL w N s.heap left rest ∧ b.toList = done.map (hashD w) ∧ s' = { s with toks := s.toks + drawsDs done })
        _ ?_ ?_ _ _ ⟨[], ds, rfl, hi, rfl, rfl⟩
      · rintro x rest b s' ⟨done, left, rfl, hl, hb, rfl⟩
        cases hl with
        | @cons k1 _ ks' _ h1 hl' =>
          have kk : ∀ (l : List PyData), keyBs (l ++ k1 :: ks') = true → keyB k1 = true := by
            intro l
            induction l with
            | nil => intro q; simp only [List.nil_append, keyBs, Bool.and_eq_true] at q; exact q.1
            | cons e l il => intro q; simp only [List.cons_append, keyBs, Bool.and_eq_true] at q; exact il q.2
          have ddk : ∀ (l : List PyData), PyData.depthAll (l ++ k1 :: ks') ≤ n → k1.depth ≤ n := by
            intro l
            induction l with
            | nil => intro q; simp only [List.nil_append, PyData.depthAll] at q; omega
            | cons e l il => intro q; simp only [List.cons_append, PyData.depthAll] at q; exact il (by omega)
          have dr : ∀ (l : List PyData), drawsDs (l ++ [k1]) = drawsDs l + drawsD k1 := by
            intro l
            induction l with
            | nil => simp [drawsDs]
            | cons e l il => simp only [List.cons_append, drawsDs, il]; omega
          have fin : ∃ done' left', done ++ k1 :: ks' = done' ++ left' ∧ DenL w N s.heap left' rest ∧ (b.push (hashD w k1)).toList = done'.map (hashD w) ∧
              ({ s with toks := s.toks + drawsDs done + drawsD k1 } : Shared) = { s with toks := s.toks + drawsDs done' } :=
            ⟨done ++ [k1], ks', by simp, hl', by simp [hb], by rw [dr]; simp [Nat.add_assoc]⟩
          refine wpAny_bind (ih k1 x A.in1 _ _ _ (kk done kd) (ddk done dd) (by show A.units + 1 + n < cLine; omega) h1 ?_)
          first
            | exact wpAny_pure fin
            | exact wpAny_bind (wpAny_pure (wpAny_pure fin))
      · rintro b s' ⟨done, left, rfl, hl, hb, rfl⟩
        cases hl
        rw [List.append_nil] at hQ
        show wpAny _ _ (retInt (Builtin.Tuple.tupleHashOf b.toList)) _ _ _
        rw [hb, ← tupleHash_len]
        refine wpAny_ret_mkInt ?_
        show wpAny _ _ (if (decide (-(2 : Int) ^ 63 ≤ Builtin.Tuple.tupleHashOf (hashDs w done)) && decide (Builtin.Tuple.tupleHashOf (hashDs w done) < 2 ^ 63)) = true then _ else _) Q E _
        simp only [hashD, drawsD] at hQ
        unfold reduceHash at hQ
        by_cases hr : (decide (-(2 : Int) ^ 63 ≤ Builtin.Tuple.tupleHashOf (hashDs w done)) && decide (Builtin.Tuple.tupleHashOf (hashDs w done) < 2 ^ 63)) = true
        · rw [if_pos hr]
          rw [if_pos hr] at hQ
          exact wpAny_pure (by simpa [Nat.add_assoc] using hQ)
        · rw [if_neg hr]
          rw [if_neg hr] at hQ
          exact wpAny_bind (wpAny_rule (wpAny_pure (by simpa [Nat.add_assoc] using hQ)))
    | _ => simp [keyB] at k

noncomputable abbrev decP : DecidableEq PyData := fun _ _ => Classical.propDecidable _

theorem eqBool_den {N : Addr → Prop} {A : Around} {E : Value → Shared → Prop} {s : Shared} {x y : PyData} {a b : Addr} {Q : Bool → Shared → Prop} (hu : A.units + 64 < cLine) (kx : isKey x = true) (ky : isKey y = true)
    (hx : Den w N s.heap x (.ref a)) (hy : Den w N s.heap y (.ref b)) (h : Q (@decide (x = y) (decP x y)) s) :
    wpAny (model prog w) A (eqBool (.ref a) (.ref b)) Q E s := by
  unfold eqBool
  try with_reducible refine wpAny_holding ?_
  show wpAny _ _ (if (Value.ref a == Value.ref b) = true then _ else _) Q E s
  by_cases hab : (Value.ref a == Value.ref b) = true
  · rw [if_pos hab]
    have e : a = b := by have := eq_of_beq hab; injection this
    subst e
    obtain rfl := Den.uniq (isKey_keyB kx) (isKey_keyB ky) hx hy
    exact wpAny_bind (wpAny_rule (wpAny_pure (by simpa using h)))
  · rw [if_neg hab]
    obtain ⟨as, ra⟩ := hx.reads (noDict_of_keyB (isKey_keyB kx))
    obtain ⟨bs, rb⟩ := hy.reads (noDict_of_keyB (isKey_keyB ky))
    refine wpAny_bind ?_
    show wpAny _ _ (compareOp .Eq (.ref a) (.ref b)) _ _ _
    refine SeqAt.compareEq_shaped ra rb (shaped_of_isKey kx) (shaped_of_isKey ky) hu ?_
    show wpAny _ _ (truthy (.bool (PyData.eqv x y))) Q E s
    refine wpAny_truthy_bool ?_
    have e : PyData.eqv x y = @decide (x = y) (decP x y) := by
      have q := eqv_keyB (isKey_keyB kx) (isKey_keyB ky)
      by_cases hxy : x = y
      · rw [q.mpr hxy]; simp [hxy]
      · cases z : PyData.eqv x y with
        | true => exact absurd (q.mp z) hxy
        | false => simp [hxy]
    rw [e]; exact h

theorem quiet_den {N : Addr → Prop} : ∀ (n : Nat) (d : PyData) (v : Value) (A : Around) (E : Value → Shared → Prop) (s : Shared) (Q : Bool → Shared → Prop), keyB d = true → d.depth ≤ n → Den w N s.heap d v → Q true s →
    wpAny (model prog w) A (eqIsQuiet n v) Q E s := by
  intro n
  induction n with
  | zero =>
    intro d v A E s Q k hd x hQ
    cases x with
    | int i t => rw [eqIsQuiet_byValue _ rfl]; exact wpAny_pure hQ
    | str i t => rw [eqIsQuiet_byValue _ rfl]; exact wpAny_pure hQ
    | tuple e hc hdd r => simp [PyData.depth] at hd
    | _ => simp [keyB] at k
  | succ n ih =>
    intro d v A E s Q k hd x hQ
    cases x with
    | int i t => rw [eqIsQuiet_byValue _ rfl]; exact wpAny_pure hQ
    | str i t => rw [eqIsQuiet_byValue _ rfl]; exact wpAny_pure hQ
    | @tuple a o items nn ds ho hc hdd hi =>
      have hT : s.TypeIs (.ref a) "tuple" := ⟨_, ho, hc⟩
      have kd : keyBs ds = true := by simpa [keyB] using k
      have dd : PyData.depthAll ds ≤ n := by simp only [PyData.depth] at hd; omega
      unfold eqIsQuiet
      refine wpAny_bind (wpAny_specialOf hT F.slot_tuple_eq.lookup ?_)
      show wpAny _ _ (isInstance (.ref a) (.type "tuple") >>= _) _ _ s
      refine wpAny_bind (wpAny_isInstance hT isSubtype_tuple_tuple ?_)
      simp only [Bool.not_true, Bool.false_eq_true, if_false]
      refine wpAny_bind (wpAny_seqItems ho hdd ?_)
      refine wpAny_bind ?_
      show wpAny _ _ (forIn items _ _) _ _ s
      rw [← Array.forIn_toList]
      refine wpAny_forIn_list _ (fun rest r s' => r.1 = none ∧ s' = s ∧ ∃ left, keyBs left = true ∧ PyData.depthAll left ≤ n ∧ DenL w N s.heap left rest) _ ?_ ?_ _ _ ⟨rfl, rfl, ds, kd, dd, hi⟩
      · rintro v rest r s' ⟨hr, rfl, left, kl, dl, hl⟩
        cases hl with
        | @cons k1 _ ks' _ h1 hl' =>
          simp only [keyBs, Bool.and_eq_true] at kl
          simp only [PyData.depthAll] at dl
          refine wpAny_bind (ih k1 v A _ _ _ kl.1 (by omega) h1 ?_)
          simp only [Bool.not_true, Bool.false_eq_true, if_false]
          exact wpAny_pure ⟨rfl, rfl, ks', kl.2, by omega, hl'⟩
      · rintro ⟨r1, r2⟩ s' ⟨hr, rfl, _⟩
        simp only at hr
        subst hr
        exact wpAny_pure hQ
    | _ => simp [keyB] at k

noncomputable def keyKind (prog : Program) (w : World) : @HeapKind prog w PyData decP :=
  @HeapKind.mk prog w PyData decP
    (fun h k a => isKey k = true ∧ Den w (fun _ => False) h k (.ref a))
    (hashD w) drawsD (fun A => A.units + 70 < cLine)
    (fun hx hy => Den.uniq (isKey_keyB hx.1) (isKey_keyB hy.1) hx.2 hy.2)
    (fun x ho hd hs => ⟨x.1, Den.keyMove (isKey_keyB x.1) x.2 fun b o e ht => (hs.2 b (fun q => by
      obtain ⟨vs, n, hv⟩ := ht.2
      subst q; rw [ho] at e; cases e; rw [hd] at hv; cases hv)).trans e⟩)
    (fun hu hk h => pyHash_den 4 _ _ _ _ _ _ (isKey_keyB hk.1) (isKey_depth hk.1) (by omega) hk.2 h)
    (fun hu hx hy h => eqBool_den (by omega) hx.1 hy.1 hx.2 hy.2 h)
    (fun hk h => quiet_den 8 _ _ _ _ _ _ (isKey_keyB hk.1) (Nat.le_trans (isKey_depth hk.1) (by decide)) hk.2 h)
end

/-! a dict's pairs, purely -/
noncomputable def lookD : List (PyData × PyData) → PyData → Option PyData
  | [], _ => none
  | (k', d) :: r, k => if PyData.eqv k' k then some d else lookD r k
noncomputable def putD : List (PyData × PyData) → PyData → PyData → List (PyData × PyData)
  | [], k, d => [(k, d)]
  | (k', d') :: r, k, d => if PyData.eqv k' k then (k', d) :: r else (k', d') :: putD r k d

end Mine

namespace Mine
open Sem (wp)

/-- an exact dict that stands at d, its pairs read off N -/
noncomputable def DictAtD (w : World) (N : Addr → Prop) (h : Heap) (d : Addr) (kvs : List (PyData × PyData)) (es : List DictEntry) (n : Nat) : Prop :=
  h.get? d = some ⟨.type "dict", none, .dict es.toArray n, #[]⟩ ∧ DenE w N h kvs es ∧ (kvs.map (·.1)).Nodup

inductive DenX (w : World) (N : Addr → Prop) (h : Heap) : List (PyData × PyData) → List (PyData × Addr × Value) → Prop
  | nil : DenX w N h [] []
  | cons {k d : PyData} {a : Addr} {v : Value} {kvs : List (PyData × PyData)} {xs : List (PyData × Addr × Value)} : isKey k = true → Den w N h k (.ref a) → Den w N h d v → DenX w N h kvs xs → DenX w N h ((k, d) :: kvs) ((k, a, v) :: xs)

section
variable {prog : Program} {w : World} {N N' : Addr → Prop} {h h' : Heap}

theorem DenE.toX : ∀ {kvs : List (PyData × PyData)} {es : List DictEntry}, DenE w N h kvs es → ∃ xs, DenX w N h kvs xs ∧ es = xs.map (@entryOfKey prog w PyData decP (keyKind prog w))
  | _, _, .nil => ⟨[], .nil, rfl⟩
  | _, _, .cons i x y r => by
    obtain ⟨xs, q, e⟩ := DenE.toX r
    exact ⟨_ :: xs, .cons i x y q, by rw [e]; rfl⟩
theorem DenX.toE : ∀ {kvs : List (PyData × PyData)} {xs : List (PyData × Addr × Value)}, DenX w N h kvs xs → DenE w N h kvs (xs.map (@entryOfKey prog w PyData decP (keyKind prog w)))
  | _, _, .nil => .nil
  | _, _, .cons i x y r => .cons i x y (DenX.toE r)
theorem DenX.keys : ∀ {kvs : List (PyData × PyData)} {xs : List (PyData × Addr × Value)}, DenX w N h kvs xs → xs.map (·.1) = kvs.map (·.1)
  | _, _, .nil => rfl
  | _, _, .cons i x y r => by simp [DenX.keys r]
theorem DenX.is : ∀ {kvs : List (PyData × PyData)} {xs : List (PyData × Addr × Value)}, DenX w N h kvs xs → ∀ x ∈ xs, isKey x.1 = true ∧ Den w (fun _ => False) h x.1 (.ref x.2.1)
  | _, _, .nil, x, m => by cases m
  | _, _, .cons i y z r, x, m => by
    rcases List.mem_cons.mp m with rfl | m
    · exact ⟨i, Den.keyAny (isKey_keyB i) y⟩
    · exact DenX.is r x m
theorem DenX.length {kvs : List (PyData × PyData)} {xs : List (PyData × Addr × Value)} (x : DenX w N h kvs xs) : xs.length = kvs.length := by
  have := congrArg List.length x.keys; simpa using this
theorem DenE.length {kvs : List (PyData × PyData)} {es : List DictEntry} (x : DenE w N h kvs es) : es.length = kvs.length := by
  induction es generalizing kvs with
  | nil => cases x; rfl
  | cons e es ih => cases x with | cons a b c r => simp [ih r]
theorem DenE.allKeys : ∀ {kvs : List (PyData × PyData)} {es : List DictEntry}, DenE w N h kvs es → ∀ p ∈ kvs, isKey p.1 = true
  | _, _, .nil, x, m => by cases m
  | _, _, .cons i y z r, x, m => by
    rcases List.mem_cons.mp m with rfl | m
    · exact i
    · exact DenE.allKeys r x m
theorem DenE.get : ∀ {kvs : List (PyData × PyData)} {es : List DictEntry} {i : Nat} {k d : PyData}, DenE w N h kvs es → kvs[i]? = some (k, d) → ∃ a v, es[i]? = some ⟨hashD w k, .ref a, v⟩ ∧ isKey k = true ∧ Den w N h k (.ref a) ∧ Den w N h d v
  | _, _, i, k, d, .nil, e => by simp at e
  | _, _, 0, k, d, .cons i x y r, e => by simp at e; obtain ⟨rfl, rfl⟩ := e; exact ⟨_, _, rfl, i, x, y⟩
  | _, _, i + 1, k, d, .cons j x y r, e => by
    rw [List.getElem?_cons_succ] at e
    obtain ⟨a, v, hv, hd⟩ := DenE.get r e
    exact ⟨a, v, by rw [List.getElem?_cons_succ]; exact hv, hd⟩

theorem DictAtD.toH {d : Addr} {kvs : List (PyData × PyData)} {es : List DictEntry} {n : Nat} (x : DictAtD w N h d kvs es n) :
    ∃ xs, @Heap.DictOfH prog w PyData decP (keyKind prog w) h d xs ∧ DenX w N h kvs xs := by
  obtain ⟨e, r, nd⟩ := x
  obtain ⟨xs, q, he⟩ := r.toX (prog := prog)
  exact ⟨xs, ⟨_, _, n, e, ⟨rfl, rfl, rfl⟩, rfl, by simpa using he, fun x hx => q.is x hx, by rw [q.keys]; exact nd⟩, q⟩
theorem obj_eq_dict {o : Obj} {es : Array DictEntry} {n : Nat} (hx : o.ExactDict) (hd : o.data = .dict es n) : o = ⟨.type "dict", none, .dict es n, #[]⟩ := by
  obtain ⟨c, dd, dt, sl⟩ := o
  obtain ⟨h1, h2, h3⟩ := hx
  simp only at h1 h2 h3 hd
  subst h1 h2 h3 hd
  rfl
theorem DictAtD.ofH {d : Addr} {kvs : List (PyData × PyData)} {xs : List (PyData × Addr × Value)} (x : @Heap.DictOfH prog w PyData decP (keyKind prog w) h d xs) (q : DenX w N h kvs xs) : ∃ es n, DictAtD w N h d kvs es n := by
  obtain ⟨o, es, ep, ho, hc, hd, he, his, hn⟩ := x
  refine ⟨es.toList, ep, ?_, ?_, ?_⟩
  · rw [ho, obj_eq_dict hc hd]
  · rw [he]; exact q.toE
  · rw [← q.keys]; exact hn
/-- no reference that stands for itself -/
noncomputable def notOpen : List (PyData × PyData) → Bool
  | [(.none, _)] => false
  | _ => true
theorem notOpen_keys {kvs : List (PyData × PyData)} (h : ∀ p ∈ kvs, isKey p.1 = true) : notOpen kvs = true := by
  unfold notOpen
  split
  · have := h _ (List.mem_singleton.mpr rfl); simp [isKey] at this
  · rfl
theorem Den.dictAt {kvs : List (PyData × PyData)} {a : Addr} (x : Den w N h (.dict kvs) (.ref a)) (hk : notOpen kvs = true) : ¬ N a ∧ ∃ es n, DictAtD w N h a kvs es n := by
  cases x with
  | @dict _ es n _ hn e r nd => exact ⟨hn, es.toList, n, by simpa using e, r, nd⟩
  | opn _ => simp [notOpen] at hk
theorem notOpen_look {kvs : List (PyData × PyData)} {k d : PyData} (ik : isKey k = true) (h : lookD kvs k = some d) : notOpen kvs = true := by
  unfold notOpen
  split
  · cases k <;> simp [isKey] at ik
    simp [lookD, PyData.eqv] at h
  · rfl
theorem DictAtD.den {kvs : List (PyData × PyData)} {a : Addr} {es : List DictEntry} {n : Nat} (x : DictAtD w N h a kvs es n) (hn : ¬ N a) : Den w N h (.dict kvs) (.ref a) :=
  .dict hn x.1 (by simpa using x.2.1) x.2.2
theorem DictAtD.keeps {d : Addr} {kvs : List (PyData × PyData)} {es : List DictEntry} {n : Nat} (x : DictAtD w N h d kvs es n) (k : ∀ b o, h.get? b = some o → h'.get? b = some o) : DictAtD w N h' d kvs es n :=
  ⟨k _ _ x.1, x.2.1.chg (.of k) (fun _ _ n => n), x.2.2⟩

/-! reading and putting, purely and in the dict -/
theorem eqv_iff {k k' : PyData} (h : isKey k = true) (h' : isKey k' = true) : PyData.eqv k k' = true ↔ k = k' := eqv_keyB (isKey_keyB h) (isKey_keyB h')

theorem atKey_look {kvs : List (PyData × PyData)} {xs : List (PyData × Addr × Value)} (q : DenX w N h kvs xs) {k : PyData} (hk : isKey k = true) :
    match lookD kvs k with
    | some d => ∃ p, @atKey PyData decP xs k = some p ∧ Den w N h d p.2
    | none => @atKey PyData decP xs k = none := by
  induction q with
  | nil => rfl
  | @cons k' d' a v kvs xs i x y r ih =>
    rw [lookD]
    by_cases e : k' = k
    · subst e
      rw [if_pos ((eqv_iff hk hk).mpr rfl)]
      exact ⟨(a, v), by simp [atKey], y⟩
    · rw [if_neg fun z => e ((eqv_iff i hk).mp z)]
      have : @atKey PyData decP ((k', a, v) :: xs) k = @atKey PyData decP xs k := by simp [atKey, List.find?_cons, e]
      rw [this]
      exact ih
theorem DenX.chg' {N : Addr → Prop} (c : Chg N h h') (hN : ∀ a, (h.get? a).isSome → N' a → N a) : ∀ {kvs : List (PyData × PyData)} {xs : List (PyData × Addr × Value)}, DenX w N h kvs xs → DenX w N' h' kvs xs
  | _, _, .nil => .nil
  | _, _, .cons i x y r => .cons i (x.chg c hN) (y.chg c hN) (DenX.chg' c hN r)

theorem stored_put {kvs : List (PyData × PyData)} {xs : List (PyData × Addr × Value)} (q : DenX w N h kvs xs) (nd : (kvs.map (·.1)).Nodup) {k d : PyData} {a : Addr} {v : Value} (hk : isKey k = true) (x : Den w N h k (.ref a)) (y : Den w N h d v) :
    DenX w N h (putD kvs k d) (@storedH PyData decP xs k a v) := by
  induction q with
  | nil => exact .cons hk x y .nil
  | @cons k' d' a' v' kvs xs i x' y' r ih =>
    simp only [List.map_cons, List.nodup_cons] at nd
    rw [putD]
    by_cases e : k' = k
    · subst e
      rw [if_pos ((eqv_iff hk hk).mpr rfl)]
      have hnot : k' ∉ xs.map (·.1) := by rw [r.keys]; exact nd.1
      have : @storedH PyData decP ((k', a', v') :: xs) k' a v = (k', a', v) :: xs := by
        rw [@storedH_old PyData decP _ _ (a', v') (by simp [atKey]), List.map_cons, @map_putAt_of_not_mem PyData decP xs k' v hnot]
        simp [putAt]
      rw [this]
      exact .cons hk x' y r
    · rw [if_neg fun z => e ((eqv_iff i hk).mp z)]
      have : @storedH PyData decP ((k', a', v') :: xs) k a v = (k', a', v') :: @storedH PyData decP xs k a v := by
        have e2 : @atKey PyData decP ((k', a', v') :: xs) k = @atKey PyData decP xs k := by simp [atKey, List.find?_cons, e]
        cases z : @atKey PyData decP xs k with
        | none => rw [@storedH_new PyData decP _ _ (e2.trans z), @storedH_new PyData decP _ _ z]; rfl
        | some p => rw [@storedH_old PyData decP _ _ _ (e2.trans z), @storedH_old PyData decP _ _ _ z, List.map_cons]; simp [putAt, e]
      rw [this]
      exact .cons i x' y' (ih nd.2)

theorem Den.falseN {d : PyData} {v : Value} (k : isKey d = true) (x : Den w N h d v) : Den w N' h d v := Den.keyAny (isKey_keyB k) x

section
variable {A : Around} {E : Value → Shared → Prop} {s : Shared} {N₂ : Addr → Prop}
theorem getItem_den {d a : Addr} {kvs : List (PyData × PyData)} {k dv : PyData} {Q : Value → Shared → Prop} (hu : A.units + 80 < cLine) (hd : Den w N s.heap (.dict kvs) (.ref d)) (ik : isKey k = true) (hk : Den w N₂ s.heap k (.ref a))
    (hl : lookD kvs k = some dv) (h : ∀ v tk, Den w N s.heap dv v → Q v { s with toks := tk }) : wpAny (model prog w) A (getItem (.ref d) (.ref a)) Q E s := by
  obtain ⟨_, es, n, hat⟩ := hd.dictAt (notOpen_look ik hl)
  obtain ⟨xs, hH, q⟩ := hat.toH (prog := prog)
  have := atKey_look q ik
  rw [hl] at this
  obtain ⟨p, hp, hv⟩ := this
  exact @wpAny_getItem_heap prog w PyData decP (keyKind prog w) A E s d a k xs p Q (by show A.units + 1 + 70 < cLine; omega) ⟨ik, hk.falseN ik⟩ hH hp (h _ _ hv)

theorem in_den {d a : Addr} {kvs : List (PyData × PyData)} {es : List DictEntry} {n : Nat} {k : PyData} {Q : Value → Shared → Prop} (hu : A.units + 80 < cLine) (hS : (d == sysModules) = false) (hat : DictAtD w N s.heap d kvs es n) (ik : isKey k = true) (hk : Den w N₂ s.heap k (.ref a))
    (h : ∀ tk, Q (.bool (lookD kvs k).isSome) { s with toks := tk }) : wpAny (model prog w) A (compareOp .In (.ref a) (.ref d)) Q E s := by
  obtain ⟨xs, hH, q⟩ := hat.toH (prog := prog)
  have := atKey_look q ik
  refine @wpAny_in_heap prog w PyData decP (keyKind prog w) A E s d a k xs Q (by show A.units + 1 + 70 < cLine; omega) ⟨ik, hk.falseN ik⟩ hS hH ?_
  cases e : lookD kvs k with
  | none => rw [e] at this; simp only at this; rw [this]; rw [e] at h; exact h _
  | some dv => rw [e] at this; obtain ⟨p, hp, _⟩ := this; rw [hp]; rw [e] at h; exact h _

theorem getItemAt_den {d a : Addr} {kvs : List (PyData × PyData)} {es : List DictEntry} {n : Nat} {k dv : PyData} {Q : Value → Shared → Prop} (hu : A.units + 80 < cLine) (hat : DictAtD w N s.heap d kvs es n) (ik : isKey k = true) (hk : Den w N₂ s.heap k (.ref a))
    (hl : lookD kvs k = some dv) (h : ∀ v tk, Den w N s.heap dv v → Q v { s with toks := tk }) : wpAny (model prog w) A (getItem (.ref d) (.ref a)) Q E s := by
  obtain ⟨xs, hH, q⟩ := hat.toH (prog := prog)
  have := atKey_look q ik
  rw [hl] at this
  obtain ⟨p, hp, hv⟩ := this
  exact @wpAny_getItem_heap prog w PyData decP (keyKind prog w) A E s d a k xs p Q (by show A.units + 1 + 70 < cLine; omega) ⟨ik, hk.falseN ik⟩ hH hp (h _ _ hv)

theorem chg_of_sameBut {N : Addr → Prop} {d : Addr} {h h' : Heap} (hs : Heap.SameBut d h h') (hd : N d) (ho : ∀ o, h.get? d = some o → ¬ TupObj o) : Chg N h h' := fun b o e n => by
  by_cases q : b = d
  · subst q
    rcases n with n | n
    · exact absurd hd n
    · exact absurd n (ho o e)
  · exact (hs.2 b q).trans e

theorem dict_not_tup {h : Heap} {d : Addr} {es : Array DictEntry} {n : Nat} (e : h.get? d = some ⟨.type "dict", none, .dict es n, #[]⟩) : ∀ o, h.get? d = some o → ¬ TupObj o := fun o q t => by
  rw [e] at q; cases q; exact nomatch (show (Value.type "dict" = Value.type "tuple") from t.1)

theorem dictSet_den {d a : Addr} {kvs : List (PyData × PyData)} {es : List DictEntry} {n : Nat} {k dv : PyData} {v : Value} {Q : Unit → Shared → Prop} (hu : A.units + 80 < cLine) (hN : N d) (hat : DictAtD w N s.heap d kvs es n) (ik : isKey k = true)
    (hk : Den w N₂ s.heap k (.ref a)) (hv : Den w N s.heap dv v) (hsz : kvs.length ≤ sizeLine)
    (h : ∀ h' tk es' n', DictAtD w N h' d (putD kvs k dv) es' n' → Heap.SameBut d s.heap h' → Chg N s.heap h' → Q () { s with heap := h', toks := tk }) : wpAny (model prog w) A (dictSet d (.ref a) v) Q E s := by
  obtain ⟨xs, hH, q⟩ := hat.toH (prog := prog)
  refine @wpAny_dictSet_heap prog w PyData decP (keyKind prog w) A E s d a xs k v Q (by show A.units + 70 < cLine; omega) ⟨ik, hk.falseN ik⟩ hH (fun h' hm hs => ?_) (by rw [q.length]; exact hsz)
  have c : Chg N s.heap h' := chg_of_sameBut hs hN (dict_not_tup hat.1)
  have q' := (stored_put q hat.2.2 ik (hk.falseN ik) hv).chg' c fun _ _ n => n
  obtain ⟨es', n', hat'⟩ := DictAtD.ofH hm q'
  exact h h' _ es' n' hat' hs c

theorem setItem_den {d a : Addr} {kvs : List (PyData × PyData)} {es : List DictEntry} {n : Nat} {k dv : PyData} {v : Value} {Q : Unit → Shared → Prop} (hu : A.units + 80 < cLine) (hN : N d) (hat : DictAtD w N s.heap d kvs es n) (ik : isKey k = true)
    (hk : Den w N₂ s.heap k (.ref a)) (hv : Den w N s.heap dv v) (hsz : kvs.length ≤ sizeLine)
    (h : ∀ h' tk es' n', DictAtD w N h' d (putD kvs k dv) es' n' → Heap.SameBut d s.heap h' → Chg N s.heap h' → Q () { s with heap := h', toks := tk }) : wpAny (model prog w) A (setItem (.ref d) (.ref a) v) Q E s := by
  obtain ⟨xs, hH, q⟩ := hat.toH (prog := prog)
  refine @wpAny_setItem_heap prog w PyData decP (keyKind prog w) A E s d a k xs v Q (by show A.units + 1 + 70 < cLine; omega) ⟨ik, hk.falseN ik⟩ hH (fun h' hm hs => ?_) (by rw [q.length]; exact hsz)
  have c : Chg N s.heap h' := chg_of_sameBut hs hN (dict_not_tup hat.1)
  have q' := (stored_put q hat.2.2 ik (hk.falseN ik) hv).chg' c fun _ _ n => n
  obtain ⟨es', n', hat'⟩ := DictAtD.ofH hm q'
  exact h h' _ es' n' hat' hs c
end
end
end Mine

namespace Mine
open Sem (wp)

noncomputable def CodeObj (o : Obj) : Prop := o.cls = .type "code" ∧ ∃ vs, o.data = .fields vs
/-- what stands through the whole call -/
structure G where
  base : Heap
  mg : Str → Option Value
  mb : Str → Option Value
  T : Addr → Prop
  TI : Heap → Prop
  nsG : base.Ns mainGlobals mg
  nsB : base.Ns builtinsNs mb
  lim : base.NoLimit
  mods : (base.get? sysModules).isSome
  tnone : ∀ a, T a → base.get? a = none
  tlive : ∀ h a, TI h → T a → ∃ o vs, h.get? a = some o ∧ o.data = .fields vs ∧ o.cls = .none
  tkeep : ∀ h h', TI h → (∀ b o, h.get? b = some o → (T b ∨ CodeObj o) → h'.get? b = some o) → TI h'

noncomputable abbrev noO : Addr → Prop := fun _ => False

/-- the heap moves: only at O (and at the tables), and no tuple -/
structure Mv (g : G) (O : Addr → Prop) (h h' : Heap) : Prop where
  keep : ∀ b o, h.get? b = some o → ((¬ g.T b ∧ ¬ O b) ∨ TupObj o) → h'.get? b = some o
  ti : g.TI h → g.TI h'
  live : ∀ b, (h.get? b).isSome → (h'.get? b).isSome

theorem tab_not_tup {g : G} {h : Heap} {a : Addr} (t : g.TI h) (ha : g.T a) {o : Obj} (e : h.get? a = some o) : ¬ TupObj o := fun q => by
  obtain ⟨o', vs, e', _, hc⟩ := g.tlive h a t ha
  rw [e] at e'; cases e'
  have := q.1; rw [hc] at this; cases this

section
variable {g : G} {O O' : Addr → Prop} {h h' h₁ h₂ h₃ : Heap}
theorem Mv.refl : Mv g O h h := ⟨fun _ _ e _ => e, id, fun _ e => e⟩
theorem Mv.trans (x : Mv g O h₁ h₂) (y : Mv g O h₂ h₃) : Mv g O h₁ h₃ := ⟨fun b o e n => y.keep b o (x.keep b o e n) n, fun t => y.ti (x.ti t), fun b e => y.live b (x.live b e)⟩
theorem Mv.mono (x : Mv g O h h') (s : ∀ a, O a → O' a) : Mv g O' h h' := ⟨fun b o e n => x.keep b o e (n.elim (fun n => .inl ⟨n.1, fun q => n.2 (s _ q)⟩) .inr), x.ti, x.live⟩
/-- a change at what is new to h is none -/
theorem Mv.fresh (x : Mv g O h₁ h₂) (y : Mv g O' h₂ h₃) (s : ∀ a, O' a → O a ∨ h₁.get? a = none) : Mv g O h₁ h₃ :=
  ⟨fun b o e n => y.keep b o (x.keep b o e n) (n.elim (fun n => .inl ⟨n.1, fun q => (s _ q).elim n.2 fun z => by rw [e] at z; cases z⟩) .inr), fun t => y.ti (x.ti t), fun b e => y.live b (x.live b e)⟩
theorem Mv.ofKeep (k : ∀ b o, h.get? b = some o → h'.get? b = some o) : Mv g O h h' :=
  ⟨fun b o e _ => k b o e, fun t => g.tkeep h h' t fun b o e _ => k b o e, fun b e => by
    cases q : h.get? b with
    | none => rw [q] at e; cases e
    | some o => rw [k b o q]; rfl⟩
theorem Mv.push (o : Obj) : Mv g O h (h.push o) := .ofKeep fun b o' e => Heap.get?_push_of_some _ e
/-- a change at one place that is no tuple, no code and no table -/
theorem Mv.one {d : Addr} (k : ∀ b o, b ≠ d → h.get? b = some o → h'.get? b = some o) (hO : O d) (hT : ¬ g.T d) (ho : ∀ o, h.get? d = some o → ¬ TupObj o ∧ ¬ CodeObj o) (hl : (h'.get? d).isSome) : Mv g O h h' where
  keep := fun b o e n => by
    by_cases q : b = d
    · subst q
      rcases n with n | n
      · exact absurd hO n.2
      · exact absurd n (ho o e).1
    · exact k b o q e
  ti := fun t => g.tkeep h h' t fun b o e c => by
    by_cases q : b = d
    · subst q
      rcases c with c | c
      · exact absurd c hT
      · exact absurd c (ho o e).2
    · exact k b o q e
  live := fun b e => by
    by_cases q : b = d
    · subst q; exact hl
    · cases z : h.get? b with
      | none => rw [z] at e; cases e
      | some o => rw [k b o q z]; rfl
theorem Mv.chg {N : Addr → Prop} (x : Mv g O h h') (hT : ∀ a, g.T a → N a) (hO : ∀ a, O a → N a) : Chg N h h' :=
  fun b o e n => x.keep b o e (n.elim (fun n => .inl ⟨fun q => n (hT _ q), fun q => n (hO _ q)⟩) .inr)
end

/-- the heap is in order: N are the places that may move -/
structure Cx (g : G) (N : Addr → Prop) (h : Heap) : Prop where
  glo : ∀ b o, g.base.get? b = some o → h.get? b = some o
  live : ∀ a, N a → (h.get? a).isSome
  mods : N sysModules
  tabs : ∀ a, g.T a → N a
  ti : g.TI h

section
variable {g : G} {N N' O : Addr → Prop} {h h' : Heap}
theorem Cx.mv (c : Cx g N h) (x : Mv g O h h') (hO : ∀ a, O a → g.base.get? a = none) : Cx g N h' where
  glo := fun b o e => x.keep b o (c.glo b o e) (.inl ⟨fun q => (by rw [g.tnone b q] at e; cases e), fun q => (by rw [hO b q] at e; cases e)⟩)
  live := fun a n => x.live a (c.live a n)
  mods := c.mods
  tabs := c.tabs
  ti := x.ti c.ti
theorem Cx.more (c : Cx g N h) (O : Addr → Prop) (hl : ∀ a, O a → (h.get? a).isSome) : Cx g (fun a => N a ∨ O a) h where
  glo := c.glo
  live := fun a n => n.elim (c.live a) (hl a)
  mods := .inl c.mods
  tabs := fun a t => .inl (c.tabs a t)
  ti := c.ti
theorem Cx.fresh (c : Cx g N h) {a : Addr} (ha : h.get? a = none) : ¬ N a := fun n => by
  have := c.live a n; rw [ha] at this; cases this
theorem Cx.nextFresh (h : Heap) : h.get? h.objs.size = none := by
  cases e : h.get? h.objs.size with
  | none => rfl
  | some o => exact absurd (Heap.lt_size e) (Nat.lt_irrefl _)
theorem Cx.baseFresh (c : Cx g N h) {a : Addr} (ha : h.get? a = none) : g.base.get? a = none := by
  cases e : g.base.get? a with
  | none => rfl
  | some o => rw [c.glo a o e] at ha; cases ha
theorem Cx.nsG (c : Cx g N h) : h.Ns mainGlobals g.mg := g.nsG.keeps c.glo
theorem Cx.nsB (c : Cx g N h) : h.Ns builtinsNs g.mb := g.nsB.keeps c.glo
theorem Cx.lim (c : Cx g N h) : h.NoLimit := g.lim.keeps c.glo
end

/-- a name's value in a frame -/
noncomputable def Var (h : Heap) (env : Env) (x : Str) (v : Value) : Prop :=
  (env.kindOf x = some .local ∧ ∃ m, h.Ns env.locals m ∧ m x = some v) ∨
  ((env.kindOf x = some .cell ∨ env.kindOf x = some .free) ∧ ∃ c, env.cells.lookup x = some c ∧ h.IsCell c (some v))

/-- the places that a frame's stores move -/
noncomputable def Own (env : Env) (a : Addr) : Prop := a = env.locals ∨ ∃ x, env.cells.lookup x = some a

structure EnvOk (g : G) (N : Addr → Prop) (env : Env) (h : Heap) : Prop where
  kind : env.scope.kind = .function
  glob : env.globals = mainGlobals
  blt : env.builtins = builtinsNs
  loc : ∃ m, h.Ns env.locals m
  cell : ∀ x c, env.cells.lookup x = some c → ∃ v, h.IsCell c v
  inj : ∀ x y c, env.cells.lookup x = some c → env.cells.lookup y = some c → x = y
  has : ∀ x, env.kindOf x = some .cell ∨ env.kindOf x = some .free → ∃ c, env.cells.lookup x = some c
  own : ∀ a, Own env a → N a ∧ g.base.get? a = none ∧ ¬ g.T a

noncomputable abbrev Rho := List (Str × PyData)

structure St (g : G) (w : World) (N : Addr → Prop) (env : Env) (h : Heap) (ρ : Rho) : Prop where
  cx : Cx g N h
  ok : EnvOk g N env h
  den : ∀ x d, ρ.lookup x = some d → ∃ v, Var h env x v ∧ Den w N h d v

section
variable {g : G} {w : World} {N N' O : Addr → Prop} {h h' : Heap} {env : Env} {ρ ρ' : Rho}
theorem ns_keep {a : Addr} {m : Str → Option Value} (x : Mv g O h h') (n : h.Ns a m) (hT : ¬ g.T a) (hO : ¬ O a) : h'.Ns a m := by
  obtain ⟨o, es, ep, e, r⟩ := n
  exact ⟨o, es, ep, x.keep a o e (.inl ⟨hT, hO⟩), r⟩
theorem cell_keep {a : Addr} {v : Option Value} (x : Mv g O h h') (n : h.IsCell a v) (hT : ¬ g.T a) (hO : ¬ O a) : h'.IsCell a v := by
  obtain ⟨o, e, r⟩ := n
  exact ⟨o, x.keep a o e (.inl ⟨hT, hO⟩), r⟩
theorem EnvOk.mv (k : EnvOk g N env h) (x : Mv g O h h') (hO : ∀ a, Own env a → ¬ O a) : EnvOk g N env h' where
  kind := k.kind
  glob := k.glob
  blt := k.blt
  loc := let ⟨m, n⟩ := k.loc; ⟨m, ns_keep x n (k.own _ (.inl rfl)).2.2 (hO _ (.inl rfl))⟩
  cell := fun y c e => let ⟨v, n⟩ := k.cell y c e; ⟨v, cell_keep x n (k.own _ (.inr ⟨y, e⟩)).2.2 (hO _ (.inr ⟨y, e⟩))⟩
  inj := k.inj
  has := k.has
  own := k.own
theorem Var.mv {y : Str} {v : Value} (k : EnvOk g N env h) (x : Mv g O h h') (hO : ∀ a, Own env a → ¬ O a) (z : Var h env y v) : Var h' env y v := by
  rcases z with ⟨a, m, n, e⟩ | ⟨a, c, e, n⟩
  · exact .inl ⟨a, m, ns_keep x n (k.own _ (.inl rfl)).2.2 (hO _ (.inl rfl)), e⟩
  · exact .inr ⟨a, c, e, cell_keep x n (k.own _ (.inr ⟨y, e⟩)).2.2 (hO _ (.inr ⟨y, e⟩))⟩
theorem St.mv (z : St g w N env h ρ) (x : Mv g O h h') (hO : ∀ a, O a → N a ∧ g.base.get? a = none ∧ ¬ Own env a) : St g w N env h' ρ where
  cx := z.cx.mv x fun a o => (hO a o).2.1
  ok := z.ok.mv x fun a o q => (hO a q).2.2 o
  den := fun y d e => let ⟨v, a, b⟩ := z.den y d e; ⟨v, a.mv z.ok x fun a o q => (hO a q).2.2 o, b.chg (x.chg z.cx.tabs fun a o => (hO a o).1) fun _ _ n => n⟩
theorem St.gr (z : St g w N env h ρ) (x : Mv g noO h h') : St g w N env h' ρ := z.mv x fun _ q => q.elim
theorem St.weaken (z : St g w N env h ρ) (hs : ∀ x d, ρ'.lookup x = some d → ρ.lookup x = some d) : St g w N env h ρ' := ⟨z.cx, z.ok, fun x d e => z.den x d (hs x d e)⟩
end

/-- room to call -/
structure Room (A : Around) (k : Nat) : Prop where
  handled : A.handled = none
  depth : A.depth + k + 1 ≤ recursionLimit
  units : A.units + 3 * k + 200 ≤ cLine
theorem Room.le {A : Around} {k j : Nat} (r : Room A k) (h : j ≤ k) : Room A j := ⟨r.handled, by have := r.depth; omega, by have := r.units; omega⟩

/-- e gives d: the heap moves at no old place; with φ the lists and dicts of what is given are new -/
noncomputable def Ev (g : G) (prog : Program) (w : World) (k : Nat) (sc : Scope) (φ : Bool) (ρ : Rho) (e : Expr) (d : PyData) : Prop :=
  ∀ (A : Around) (env : Env) (N : Addr → Prop) (s : Shared) (Q : Value → Shared → Prop) (E : Value → Shared → Prop), env.scope = sc → Room A k → St g w N env s.heap ρ →
    (∀ h' tk v, Mv g noO s.heap h' → Den w (fun a => N a ∨ (φ = true ∧ (s.heap.get? a).isSome)) h' d v → Q v { s with heap := h', toks := tk }) → wpAny (model prog w) A (eval e env) Q E s
/-- e, asked as a test, gives b -/
noncomputable def Tr (g : G) (prog : Program) (w : World) (k : Nat) (sc : Scope) (ρ : Rho) (e : Expr) (b : Bool) : Prop :=
  ∀ (A : Around) (env : Env) (N : Addr → Prop) (s : Shared) (Q : Bool → Shared → Prop) (E : Value → Shared → Prop), env.scope = sc → Room A k → St g w N env s.heap ρ →
    (∀ h' tk, Mv g noO s.heap h' → Q b { s with heap := h', toks := tk }) → wpAny (model prog w) A (isTrue e env (eval e env)) Q E s

section
variable {g : G} {prog : Program} {w : World} {k j : Nat} {sc : Scope} {φ : Bool} {ρ : Rho} {e : Expr} {d : PyData} {b : Bool}
theorem Ev.cong {d' : PyData} (x : Ev g prog w k sc φ ρ e d) (h : d = d') : Ev g prog w k sc φ ρ e d' := h ▸ x
/-! the plainest rules -/
theorem Ev.name {x : Str} {pos : Pos} (h : ρ.lookup x = some d) (hd : (x == ("__debug__" : Str)) = false := by decide) (hc : (x == ("__classdict__" : Str)) = false := by decide) : Ev g prog w k sc false ρ (.Name x pos) d := by
  intro A env N s Q E hs hr z hQ
  obtain ⟨v, hv, hD⟩ := z.den x d h
  have fin : Q v s := hQ s.heap s.toks v .refl (hD.weaken fun a _ n => n.elim id fun q => by cases q.1)
  refine wpAny_Name ?_ hd
  rcases hv with ⟨a, m, n, e⟩ | ⟨a | a, c, e, n⟩
  · exact wpAny_loadName_local z.ok.kind a n e fin
  · exact wpAny_loadName_cell z.ok.kind a e n fin
  · exact wpAny_loadName_free z.ok.kind a e n fin hc
theorem Ev.int {i : Int} {n : Nat} {pos : Pos} : Ev g prog w k sc φ ρ (.Constant (.int i) n pos) (.int i) :=
  fun A env N s Q E hs hr z hQ => wpAny_Constant_int (hQ s.heap _ _ .refl (.int _ _))
theorem Ev.str {x : Str} {n : Nat} {pos : Pos} : Ev g prog w k sc φ ρ (.Constant (.str x) n pos) (.str x) :=
  fun A env N s Q E hs hr z hQ => Calls.Constant_str (hQ s.heap _ _ .refl (.str _ _))

/-- two parts, one behind the other, then a step -/
theorem Ev.two {l r : Expr} {φ₁ φ₂ : Bool} {a b : PyData} (x : Ev g prog w k sc φ₁ ρ l a) (y : Ev g prog w k sc φ₂ ρ r b) {A : Around} {env : Env} {N : Addr → Prop} {s : Shared} {E : Value → Shared → Prop} {P : Value → Value → Shared → Prop}
    (hs : env.scope = sc) (hr : Room A k) (z : St g w N env s.heap ρ)
    (h : ∀ h' tk u v, Mv g noO s.heap h' → St g w N env h' ρ → Den w (fun a => N a ∨ (φ₁ = true ∧ (s.heap.get? a).isSome)) h' a u → Den w (fun a => N a ∨ (φ₂ = true ∧ (s.heap.get? a).isSome)) h' b v → P u v { s with heap := h', toks := tk }) :
    wpAny (model prog w) A (eval l env) (fun u s₁ => wpAny (model prog w) A (eval r env) (fun v s₂ => P u v s₂) E s₁) E s := by
  refine x A env N s _ E hs hr z fun h₁ t₁ u m₁ d₁ => ?_
  refine y A env N _ _ E hs hr (z.gr m₁) fun h₂ t₂ v m₂ d₂ => ?_
  refine h h₂ t₂ u v (m₁.trans m₂) ((z.gr m₁).gr m₂) ?_ (d₂.weaken fun a _ n => n.elim .inl fun q => .inr ⟨q.1, m₁.live a q.2⟩)
  exact d₁.chg (m₂.chg (fun a t => .inl (z.cx.tabs a t)) fun _ q => q.elim) fun _ _ n => n
end
end Mine

namespace Mine
open Sem (wp)

/-- a step of two values -/
noncomputable def Op2 (g : G) (prog : Program) (w : World) (k : Nat) (φ : Bool) (t : Value → Value → Sem Value) (a b c : PyData) : Prop :=
  ∀ (A : Around) (N : Addr → Prop) (s : Shared) (u v : Value) (Q : Value → Shared → Prop) (E : Value → Shared → Prop), Room A k → Cx g N s.heap → Den w N s.heap a u → Den w N s.heap b v →
    (∀ h' tk r, Mv g noO s.heap h' → Den w (fun a => N a ∨ (φ = true ∧ (s.heap.get? a).isSome)) h' c r → Q r { s with heap := h', toks := tk }) → wpAny (model prog w) A (t u v) Q E s

section
variable {g : G} {prog : Program} {w : World} {k j : Nat} {sc : Scope} {φ φ₁ φ₂ : Bool} {ρ : Rho} {e l r : Expr} {a b c d : PyData} {pos : Pos}

theorem den_plain {N : Addr → Prop} {h : Heap} {d : PyData} {v : Value} {M : Addr → Prop} (x : Den w (fun a => N a ∨ M a) h d v) : Den w N h d v := x.weaken fun _ _ n => .inl n

theorem Ev.use2 (x : Ev g prog w k sc φ₁ ρ l a) (y : Ev g prog w k sc φ₂ ρ r b) {t : Value → Value → Sem Value} (o : Op2 g prog w k φ t a b c) {A : Around} {env : Env} {N : Addr → Prop} {s : Shared} {Q : Value → Shared → Prop} {E : Value → Shared → Prop}
    (hs : env.scope = sc) (hr : Room A k) (z : St g w N env s.heap ρ)
    (hQ : ∀ h' tk v, Mv g noO s.heap h' → Den w (fun a => N a ∨ (φ = true ∧ (s.heap.get? a).isSome)) h' c v → Q v { s with heap := h', toks := tk }) :
    wpAny (model prog w) A (eval l env) (fun u s₁ => wpAny (model prog w) A (eval r env) (fun v s₂ => wpAny (model prog w) A (t u v) Q E s₂) E s₁) E s :=
  Ev.two (P := fun u v s₂ => wpAny (model prog w) A (t u v) Q E s₂) x y hs hr z fun h' tk u v m z' du dv =>
    o A N _ u v Q E hr z'.cx (den_plain du) (den_plain dv) fun h'' tk' r m' dr => hQ h'' tk' r (m.trans m') (dr.weaken fun a _ n => n.elim .inl fun q => .inr ⟨q.1, m.live a q.2⟩)

theorem Ev.bin {op : Operator} (x : Ev g prog w k sc φ₁ ρ l a) (y : Ev g prog w k sc φ₂ ρ r b) (o : Op2 g prog w k φ (binaryOp op) a b c) : Ev g prog w k sc φ ρ (.BinOp l op r pos) c :=
  fun A env N s Q E hs hr z hQ => wpAny_BinOp (Ev.use2 x y o hs hr z hQ)

theorem Ev.cmp {op : CmpOp} (x : Ev g prog w k sc φ₁ ρ l a) (y : Ev g prog w k sc φ₂ ρ r b) (o : Op2 g prog w k φ (compareOp op) a b c) (hm : behindInMarks op r = false := by rfl) : Ev g prog w k sc φ ρ (.Compare l [op] [r] pos) c :=
  fun A env N s Q E hs hr z hQ => wpAny_Compare1 (Ev.use2 x y o hs hr z hQ) hm

theorem Tr.cmp {op : CmpOp} {t : Bool} (x : Ev g prog w k sc φ₁ ρ l a) (y : Ev g prog w k sc φ₂ ρ r b) (o : Op2 g prog w k false (compareOp op) a b (.bool t)) (hm : behindInMarks op r = false := by rfl) : Tr g prog w k sc ρ (.Compare l [op] [r] pos) t := by
  intro A env N s Q E hs hr z hQ
  refine wpAny_isTrue_Compare1 ?_ hm
  refine Ev.two (P := fun u v s₂ => wpAny (model prog w) A (compareOp op u v) (fun c s₃ => wpAny (model prog w) A (truthy c) Q E s₃) E s₂) x y hs hr z fun h' tk u v m z' du dv =>
    o A N _ u v _ E hr z'.cx (den_plain du) (den_plain dv) fun h'' tk' r m' dr => ?_
  cases dr
  exact wpAny_truthy_bool (hQ h'' tk' (m.trans m'))

/-! ints -/
theorem Op2.ofInt {t : Value → Value → Sem Value} {i j m : Int} (f : ∀ (A : Around) (N : Addr → Prop) (s : Shared) (ti tj : Tok) (Q : Value → Shared → Prop) (E : Value → Shared → Prop), Room A k → Cx g N s.heap → Q (.int m s.toks) { s with toks := s.toks + 1 } → wpAny (model prog w) A (t (.int i ti) (.int j tj)) Q E s) :
    Op2 g prog w k φ t (.int i) (.int j) (.int m) := by
  intro A N s u v Q E hr c hu hv hQ
  cases hu; cases hv
  exact f A N s _ _ Q E hr c (hQ s.heap _ _ .refl (.int _ _))
theorem Op2.ofBool {t : Value → Value → Sem Value} {i j : Int} {m : Bool} (f : ∀ (A : Around) (N : Addr → Prop) (s : Shared) (ti tj : Tok) (Q : Value → Shared → Prop) (E : Value → Shared → Prop), Room A k → Cx g N s.heap → Q (.bool m) s → wpAny (model prog w) A (t (.int i ti) (.int j tj)) Q E s) :
    Op2 g prog w k φ t (.int i) (.int j) (.bool m) := by
  intro A N s u v Q E hr c hu hv hQ
  cases hu; cases hv
  exact f A N s _ _ Q E hr c (hQ s.heap s.toks _ .refl (.bool _))
theorem Op2.add {i j : Int} : Op2 g prog w k φ (binaryOp .Add) (.int i) (.int j) (.int (i + j)) := .ofInt fun A N s ti tj Q E hr c h => add_int h
theorem Op2.sub {i j : Int} : Op2 g prog w k φ (binaryOp .Sub) (.int i) (.int j) (.int (i - j)) := .ofInt fun A N s ti tj Q E hr c h => sub_int h
theorem Op2.mul {i j : Int} (hm : IntMulOk i j) : Op2 g prog w k φ (binaryOp .Mult) (.int i) (.int j) (.int (i * j)) := .ofInt fun A N s ti tj Q E hr c h => mul_int h hm
theorem Op2.fdiv {i j : Int} (hj : j ≠ 0) (hp : Builtin.divisionGoesByPylong i j = false) : Op2 g prog w k φ (binaryOp .FloorDiv) (.int i) (.int j) (.int (i.fdiv j)) := .ofInt fun A N s ti tj Q E hr c h => floordiv_int hj h (.inl hp)
theorem Op2.fmod {i j : Int} (hj : j ≠ 0) : Op2 g prog w k φ (binaryOp .Mod) (.int i) (.int j) (.int (i.fmod j)) := .ofInt fun A N s ti tj Q E hr c h => mod_int' hj h
theorem Op2.pow {i j : Int} (hn : 0 ≤ j) (hsz : (Builtin.Int.intBits i : Int) * j ≤ 2 ^ 27) : Op2 g prog w k φ (binaryOp .Pow) (.int i) (.int j) (.int (i ^ j.toNat)) := .ofInt fun A N s ti tj Q E hr c h => pow_int hn hsz h
theorem Op2.shr {i j : Int} (hn : 0 ≤ j) : Op2 g prog w k φ (binaryOp .RShift) (.int i) (.int j) (.int (i.fdiv (2 ^ j.toNat))) := .ofInt fun A N s ti tj Q E hr c h => rshift_int hn h
theorem Op2.shl {i j : Int} (hn : 0 ≤ j) (hsz : (Builtin.Int.intBits i : Int) + j ≤ 2 ^ 27) : Op2 g prog w k φ (binaryOp .LShift) (.int i) (.int j) (.int (i * 2 ^ j.toNat)) := .ofInt fun A N s ti tj Q E hr c h => lshift_int hn hsz h
theorem Op2.xor {i j : Int} : Op2 g prog w k φ (binaryOp .BitXor) (.int i) (.int j) (.int (Builtin.bitXor i j)) := .ofInt fun A N s ti tj Q E hr c h => xor_int h
theorem Op2.eqI {i j : Int} : Op2 g prog w k φ (compareOp .Eq) (.int i) (.int j) (.bool (i == j)) := .ofBool fun A N s ti tj Q E hr c h => eq_int h
theorem Op2.neI {i j : Int} : Op2 g prog w k φ (compareOp .NotEq) (.int i) (.int j) (.bool (i != j)) := .ofBool fun A N s ti tj Q E hr c h => ne_int h
theorem Op2.ltI {i j : Int} : Op2 g prog w k φ (compareOp .Lt) (.int i) (.int j) (.bool (decide (i < j))) := .ofBool fun A N s ti tj Q E hr c h => lt_int h
/-! lists and tuples compared, whatever they hold (but dicts) -/
theorem Room.u64 {A : Around} (hr : Room A k) : A.units + 64 < cLine := by have := hr.units; omega
theorem Room.u80 {A : Around} (hr : Room A k) : A.units + 80 < cLine := by have := hr.units; omega
theorem Op2.neD {x y : PyData} (hx : noDict x = true) (hy : noDict y = true) (sx : SeqAt.shaped x = true) (sy : SeqAt.shaped y = true) : Op2 g prog w k φ (compareOp .NotEq) x y (.bool (!PyData.eqv x y)) := by
  intro A N s u v Q E hr c hu hv hQ
  obtain ⟨as, ra⟩ := hu.reads hx
  obtain ⟨bs, rb⟩ := hv.reads hy
  exact SeqAt.compareNe_shaped ra rb sx sy hr.u64 (hQ s.heap s.toks _ .refl (.bool _))

/-! lists -/
theorem Den.listRef {N : Addr → Prop} {h : Heap} {ds : List PyData} {v : Value} (x : Den w N h (.list ds) v) : ∃ a, v = .ref a := by
  cases x; exact ⟨_, rfl⟩
theorem Den.dictRef {N : Addr → Prop} {h : Heap} {ds : List (PyData × PyData)} {v : Value} (x : Den w N h (.dict ds) v) : ∃ a, v = .ref a := by
  cases x <;> exact ⟨_, rfl⟩
theorem Den.tupRef {N : Addr → Prop} {h : Heap} {ds : List PyData} {v : Value} (x : Den w N h (.tuple ds) v) : ∃ a, v = .ref a := by
  cases x; exact ⟨_, rfl⟩
theorem Den.isList {N : Addr → Prop} {h : Heap} {ds : List PyData} {a : Addr} (x : Den w N h (.list ds) (.ref a)) : ¬ N a ∧ ∃ vs n, h.get? a = some ⟨.type "list", Option.none, .seq vs n, #[]⟩ ∧ DenL w N h ds vs.toList := by
  cases x with | list n e r => exact ⟨n, _, _, e, r⟩
theorem isList_of {h : Heap} {a : Addr} {vs : Array Value} {n : Nat} (e : h.get? a = some ⟨.type "list", none, .seq vs n, #[]⟩) : h.IsList a vs := ⟨_, e, rfl, n, rfl⟩

/-- a new list of old items -/
theorem den_newList {N M : Addr → Prop} {h : Heap} {ds : List PyData} {vs : List Value} (c : Cx g N h) (r : DenL w M h ds vs) (hM : ∀ a, M a → (h.get? a).isSome) :
    Den w M (h.push { cls := .type "list", data := .seq vs.toArray }) (.list ds) (.ref h.objs.size) :=
  .list (fun n => by have := hM _ n; rw [Cx.nextFresh] at this; cases this) (Heap.get?_push_size _ rfl) (by simpa using r.chg (.of fun b o e => Heap.get?_push_of_some _ e) fun _ _ n => n)
theorem den_newTuple {M : Addr → Prop} {h : Heap} {ds : List PyData} {vs : List Value} (r : DenL w M h ds vs) :
    Den w M (h.push { cls := .type "tuple", data := .seq vs.toArray }) (.tuple ds) (.ref h.objs.size) :=
  .tuple (Heap.get?_push_size _ rfl) rfl rfl (by simpa using r.chg (.of fun b o e => Heap.get?_push_of_some _ e) fun _ _ n => n)

mutual
/-- nothing in it that could be changed -/
noncomputable def flatD : PyData → Bool
  | .none => true
  | .bool _ => true
  | .int _ => true
  | .str _ => true
  | .tuple l => flatDs l
  | .list _ => false
  | .dict _ => false
noncomputable def flatDs : List PyData → Bool
  | [] => true
  | d :: ds => flatD d && flatDs ds
end
section
variable {N N' : Addr → Prop} {h : Heap}
mutual
theorem Den.flat : ∀ {d : PyData} {v : Value}, flatD d = true → Den w N h d v → Den w N' h d v
  | _, _, _, .none => .none
  | _, _, _, .bool b => .bool b
  | _, _, _, .int i t => .int i t
  | _, _, _, .str x t => .str x t
  | _, _, k, .tuple e hc hd r => .tuple e hc hd (DenL.flat (by simpa [flatD] using k) r)
  | _, _, k, .list _ _ _ => by simp [flatD] at k
  | _, _, k, .dict _ _ _ _ => by simp [flatD] at k
  | _, _, k, .opn _ => by simp [flatD] at k
theorem DenL.flat : ∀ {ds : List PyData} {vs : List Value}, flatDs ds = true → DenL w N h ds vs → DenL w N' h ds vs
  | _, _, _, .nil => .nil
  | _, _, k, .cons x r => by
    simp only [flatDs, Bool.and_eq_true] at k
    exact .cons (Den.flat k.1 x) (DenL.flat k.2 r)
end
end
/-- items handed into something new: new themselves, or unchangeable -/
theorem DenL.handed {N : Addr → Prop} {h₀ h : Heap} {ds : List PyData} {vs : List Value} (x : DenL w N h ds vs) (hf : φ = true → flatDs ds = true) : DenL w (fun a => N a ∨ (φ = true ∧ (h₀.get? a).isSome)) h ds vs := by
  cases φ with
  | false => exact x.weaken fun a _ n => n.elim id fun q => by cases q.1
  | true => exact x.flat (hf rfl)

theorem Op2.addL {xs ys : List PyData} (hsz : xs.length + ys.length ≤ sizeLine) (hf : φ = true → flatDs (xs ++ ys) = true) : Op2 g prog w k φ (binaryOp .Add) (.list xs) (.list ys) (.list (xs ++ ys)) := by
  intro A N s u v Q E hr c hu hv hQ
  obtain ⟨p, rfl⟩ := hu.listRef
  obtain ⟨q, rfl⟩ := hv.listRef
  obtain ⟨np, vs, n, ep, rp⟩ := hu.isList
  obtain ⟨nq, us, m, eq, rq⟩ := hv.isList
  have l1 := rp.length
  have l2 := rq.length
  simp only [Array.length_toList] at l1 l2
  refine P.add_list ep eq ?_ (by omega)
  refine hQ _ _ _ (.push _) ?_
  have e : vs ++ us = (vs.toList ++ us.toList).toArray := by simp
  rw [e]
  exact den_newList c ((rp.append rq).handed hf) fun a n => n.elim (c.live a) fun q => q.2

theorem list_mul_pick (items : Array Value) (n : Nat) : (List.foldl (fun x1 x2 => x1 ++ x2) #[] (List.replicate n items)).toList = (List.replicate n items.toList).flatten := by
  have : ∀ (l : List (Array Value)) (acc : Array Value), (List.foldl (fun x1 x2 => x1 ++ x2) acc l).toList = acc.toList ++ (l.map (·.toList)).flatten := by
    intro l
    induction l with
    | nil => intro acc; simp
    | cons x l ih => intro acc; rw [List.foldl_cons, ih]; simp
  rw [this]; simp

theorem DenL.rep {N : Addr → Prop} {h : Heap} {ds : List PyData} {vs : List Value} (x : DenL w N h ds vs) : ∀ n : Nat, DenL w N h (List.replicate n ds).flatten (List.replicate n vs).flatten
  | 0 => by simpa using DenL.nil
  | n + 1 => by rw [List.replicate_succ, List.replicate_succ, List.flatten_cons, List.flatten_cons]; exact x.append (DenL.rep x n)

theorem Op2.mulL {xs : List PyData} {i : Int} (hne : xs ≠ []) (hlo : -(2 ^ 63 : Int) ≤ i) (hhi : i < 2 ^ 63) (hsz : xs.length * i.toNat ≤ 2 ^ 24) (hf : φ = true → flatDs (List.replicate i.toNat xs).flatten = true) :
    Op2 g prog w k φ (binaryOp .Mult) (.list xs) (.int i) (.list (List.replicate i.toNat xs).flatten) := by
  intro A N s u v Q E hr c hu hv hQ
  obtain ⟨p, rfl⟩ := hu.listRef
  cases hv
  rename_i tk
  obtain ⟨np, vs, n, ep, rp⟩ := hu.isList
  have l1 := rp.length
  simp only [Array.length_toList] at l1
  have he : vs.isEmpty = false := by
    rw [Array.isEmpty_eq_false_iff]
    intro q; subst q
    exact hne (List.length_eq_zero_iff.mp (by simpa using l1))
  have hsz' : vs.size * i.toNat ≤ 2 ^ 24 := by rw [← l1]; exact hsz
  refine wpAny_binaryOp_repeat_ref (T := "list") (U := "int") (by decide) ⟨_, ep, rfl⟩ (fun s' => typeIs_int s' i tk) noFill_list_mul F.fills_int_mul F.slot_int_rmul repeat_list F.slot_int_index.lookup
    (call_meets F.slot_int_rmul (typeIs_int s i tk) F.entry_int_rmul (F.args_int_rmul_2 _ _) (int___rmul___int_list i tk p vs n)
      ⟨ep, rfl, ⟨_, ep, rfl⟩, call_meets F.slot_list_mul ⟨_, ep, rfl⟩ F.entry_list_mul (F.args_list_mul_2 _ _)
        (AutoListH.list___mul___list_int_3 p vs n i tk (by simp [Builtin.List.listFitsIndex]; omega) (by omega) (by simp [Builtin.List.listTooLong, sizeLine]; omega))
        ⟨ep, ?_⟩⟩)
  refine hQ _ _ _ (.push _) ?_
  have e : (List.foldl (fun x1 x2 => x1 ++ x2) #[] (List.replicate (if vs.isEmpty = true then 0 else i.toNat) vs)) = ((List.replicate i.toNat vs.toList).flatten).toArray := by
    rw [he]
    simp only [Bool.false_eq_true, if_false]
    exact Array.toList_inj.mp (by rw [list_mul_pick])
  rw [e]
  exact den_newList c ((rp.rep i.toNat).handed hf) fun a n => n.elim (c.live a) fun q => q.2
end
end Mine

namespace Mine
open Sem (wp)

noncomputable def EvL (g : G) (prog : Program) (w : World) (k : Nat) (sc : Scope) (φ : Bool) (ρ : Rho) (es : List Expr) (ds : List PyData) : Prop :=
  ∀ (A : Around) (env : Env) (N : Addr → Prop) (s : Shared) (pos : Pos) (Q : List Value → Shared → Prop) (E : Value → Shared → Prop), env.scope = sc → Room A k → St g w N env s.heap ρ →
    (∀ h' tk vs, Mv g noO s.heap h' → DenL w (fun a => N a ∨ (φ = true ∧ (s.heap.get? a).isSome)) h' ds vs → Q vs { s with heap := h', toks := tk }) → wpAny (model prog w) A (spliced (backTo pos (starEach es env))) Q E s

section
variable {g : G} {prog : Program} {w : World} {k j : Nat} {sc : Scope} {φ φ₁ φ₂ φ₃ : Bool} {ρ : Rho} {e l r : Expr} {a b c d : PyData} {pos : Pos}

theorem EvL.nil : EvL g prog w k sc φ ρ [] [] := fun A env N s pos Q E hs hr z hQ => spliced_none (hQ s.heap s.toks [] .refl .nil)
theorem EvL.cons {es : List Expr} {ds : List PyData} (x : Ev g prog w k sc φ ρ e d) (y : EvL g prog w k sc φ ρ es ds) (he : ∀ env, starEach (e :: es) env = (false, eval e env) :: starEach es env := by intro _; rfl) : EvL g prog w k sc φ ρ (e :: es) (d :: ds) := by
  intro A env N s pos Q E hs hr z hQ
  refine spliced_more ?_ (he env)
  refine x A env N s _ E hs hr z fun h₁ t₁ u m₁ d₁ => ?_
  refine y A env N _ pos _ E hs hr (z.gr m₁) fun h₂ t₂ vs m₂ d₂ => ?_
  refine hQ h₂ t₂ _ (m₁.trans m₂) (.cons ?_ (d₂.weaken fun a _ n => n.elim .inl fun q => .inr ⟨q.1, m₁.live a q.2⟩))
  exact d₁.chg (m₂.chg (fun a t => .inl (z.cx.tabs a t)) fun _ q => q.elim) fun _ _ n => n
theorem Ev.flat (x : Ev g prog w k sc false ρ e d) (hf : flatD d = true) : Ev g prog w k sc φ ρ e d := fun A env N s Q E hs hr z hQ => x A env N s Q E hs hr z fun h' tk v m dv => hQ h' tk v m (Den.flat hf dv)
theorem Ev.tup {es : List Expr} {ds : List PyData} {n : Nat} (x : EvL g prog w k sc φ ρ es ds) (hsz : ds.length ≤ sizeLine := by size_fits) : Ev g prog w k sc φ ρ (.Tuple es n pos) (.tuple ds) := by
  intro A env N s Q E hs hr z hQ
  refine wpAny_Tuple_spliced (x A env N s pos _ E hs hr z fun h' tk vs m r => ⟨by rw [← r.length]; exact hsz, ?_⟩)
  exact hQ _ tk _ (m.trans (.push _)) (den_newTuple r)
theorem Ev.lst {es : List Expr} {ds : List PyData} (x : EvL g prog w k sc φ ρ es ds) (hsz : ds.length ≤ sizeLine := by size_fits) : Ev g prog w k sc φ ρ (.List es pos) (.list ds) := by
  intro A env N s Q E hs hr z hQ
  refine wpAny_List_spliced (x A env N s pos _ E hs hr z fun h' tk vs m r => ⟨by rw [← r.length]; exact hsz, ?_⟩)
  exact hQ _ tk _ (m.trans (.push _)) (den_newList (z.gr m).cx r fun a n => n.elim (fun n => m.live a (z.cx.live a n)) fun q => m.live a q.2)

theorem St.new {N O : Addr → Prop} {env : Env} {h h' : Heap} (z : St g w N env h ρ) (x : Mv g noO h h') (hO : ∀ a, O a → h.get? a = none ∧ (h'.get? a).isSome) : St g w (fun a => N a ∨ O a) env h' ρ where
  cx := (z.cx.mv x fun _ q => q.elim).more O fun a o => (hO a o).2
  ok := let k := (z.gr x).ok; ⟨k.kind, k.glob, k.blt, k.loc, k.cell, k.inj, k.has, fun a o => ⟨.inl (k.own a o).1, (k.own a o).2⟩⟩
  den := fun y d e => by
    obtain ⟨v, a, b⟩ := z.den y d e
    refine ⟨v, a.mv z.ok x fun _ _ q => q, (b.weaken (N' := fun a => N a ∨ O a) fun a ha n => n.elim id fun o => ?_).chg (x.chg (fun a t => .inl (z.cx.tabs a t)) fun _ q => q.elim) fun _ _ n => n⟩
    rw [(hO a o).1] at ha; cases ha

theorem dict_nil {N : Addr → Prop} (h : Heap) : DictAtD w N (h.push { cls := .type "dict", data := .dict #[] }) h.objs.size [] [] 0 := ⟨Heap.get?_push_size _ rfl, .nil, .nil⟩

theorem Ev.dict0 : Ev g prog w k sc φ ρ (.Dict [] [] pos) (.dict []) := by
  intro A env N s Q E hs hr z hQ
  refine wpAny_Dict_empty (hQ _ s.toks _ (.push _) ?_)
  exact (dict_nil s.heap).den fun n => by
    rcases n with n | n
    · exact z.cx.fresh (Cx.nextFresh _) n
    · have := n.2; rw [Cx.nextFresh] at this; cases this

theorem Ev.dict1 {ke ve : Expr} {kd vd : PyData} (x : Ev g prog w k sc φ₁ ρ ke kd) (y : Ev g prog w k sc φ ρ ve vd) (ik : isKey kd = true) : Ev g prog w k sc φ ρ (.Dict [some ke] [ve] pos) (.dict [(kd, vd)]) := by
  intro A env N s Q E hs hr z hQ
  have hshape : (evalEachOpt [some ke] env).zip ((evalEach [ve] env).map fun v => do let x ← v; standAt pos; pure x) = [((eval ke env, do let x ← eval ve env; standAt pos; pure x) : Sem Value × Sem Value)].map fun p => (some p.1, p.2) := rfl
  rw [arm_eval_Dict, hshape, dictDisplay_pairs _ (by simp) (by simp)]
  refine wpAny_bind (wpAny_standAt (wpAny_bind ?_))
  unfold subDict
  refine wpAny_bind (wpAny_alloc ?_)
  refine wpAny_bind (wpAny_holding ?_)
  rw [if_pos (by simp)]
  have z' : St g w (fun a => N a ∨ a = s.heap.objs.size) env (s.heap.push { cls := .type "dict", data := .dict #[] }) ρ :=
    z.new (O := fun a => a = s.heap.objs.size) (.push _) fun a o => ⟨o ▸ Cx.nextFresh _, by rw [o, Heap.get?_push_size _ rfl]; rfl⟩
  have m0 : Mv g noO s.heap (s.heap.push { cls := .type "dict", data := .dict #[] }) := .push _
  refine wpAny_bind ?_
  show wpAny _ _ (eval ke env >>= fun kv => holding [kv] (eval ve env >>= fun x => standAt pos >>= fun _ => pure x) >>= fun vv => holding [kv, vv] (evalPairs []) >>= fun r => pure ((kv, vv) :: r)) _ E _
  refine wpAny_bind (x A env _ { s with heap := s.heap.push { cls := .type "dict", data := .dict #[] } } _ E hs hr z' fun h₁ t₁ u m₁ d₁ => ?_)
  refine wpAny_bind (wpAny_holding (wpAny_bind (y A env _ { s with heap := h₁, toks := t₁ } _ E hs hr (z'.gr m₁) fun h₂ t₂ v m₂ d₂ => ?_)))
  refine wpAny_bind (wpAny_standAt (wpAny_pure (wpAny_bind (wpAny_holding (wpAny_pure (wpAny_pure ?_))))))
  refine wpAny_holding (wpAny_bind ?_)
  have hku : ∃ p, u = .ref p := by
    cases kd <;> simp [isKey] at ik
    exact d₁.tupRef
  obtain ⟨p, rfl⟩ := hku
  have hat : DictAtD w (fun a => (N a ∨ a = s.heap.objs.size) ∨ (φ = true ∧ (s.heap.get? a).isSome)) h₂ s.heap.objs.size [] [] 0 :=
    ⟨m₂.keep _ _ (m₁.keep _ _ (Heap.get?_push_size _ rfl) (.inl ⟨fun t => z.cx.fresh (Cx.nextFresh _) (z.cx.tabs _ t), id⟩)) (.inl ⟨fun t => z.cx.fresh (Cx.nextFresh _) (z.cx.tabs _ t), id⟩), .nil, .nil⟩
  have hd : Den w (fun a => (N a ∨ a = s.heap.objs.size) ∨ (φ = true ∧ (s.heap.get? a).isSome)) h₂ vd v := d₂.weaken fun a _ n => n.elim .inl fun q => .inr ⟨q.1, m₁.live a (m0.live a q.2)⟩
  show wpAny _ _ (forIn [(Value.ref p, v)] PUnit.unit _) _ E _
  rw [List.forIn_cons]
  refine wpAny_bind (wpAny_bind (dictSet_den (dv := vd) hr.u80 (.inl (.inr rfl)) hat ik (N₂ := fun _ => False) ((d₁.falseN (N' := fun _ => False) ik).keyMove (isKey_keyB ik) fun b o e t => m₂.keep b o e (.inr t)) hd (by size_fits) fun h₃ t₃ es n hat' hsb hc => wpAny_pure ?_))
  simp only [List.forIn_nil]
  refine wpAny_pure (wpAny_pure (wpAny_pure ?_))
  have hT : ¬ g.T s.heap.objs.size := fun t => z.cx.fresh (Cx.nextFresh _) (z.cx.tabs _ t)
  have mm : Mv g noO s.heap h₃ := Mv.fresh (O' := fun a => a = s.heap.objs.size) ((m0.trans m₁).trans m₂)
    (Mv.one (d := s.heap.objs.size) hsb.extBut rfl hT (fun o e => by
      rw [hat.1] at e; cases e
      exact ⟨dict_not_tup hat.1 _ hat.1, fun q => by obtain ⟨_, vs, e⟩ := q; cases e⟩) (by rw [hat'.1]; rfl)) fun a o => .inr (o ▸ Cx.nextFresh _)
  refine wpAny_pure (hQ h₃ t₃ _ mm ?_)
  have hfin : DictAtD w (fun a => N a ∨ (φ = true ∧ (s.heap.get? a).isSome)) h₃ s.heap.objs.size [(kd, vd)] es n := ⟨hat'.1, (hat'.2.1).chg (.refl _ _) fun a _ n => n.elim (fun n => .inl (.inl n)) .inr, hat'.2.2⟩
  exact hfin.den fun n => by
    rcases n with n | n
    · exact z.cx.fresh (Cx.nextFresh _) n
    · have := n.2; rw [Cx.nextFresh] at this; cases this

/-! subscripts -/
theorem Ev.sub (x : Ev g prog w k sc φ₁ ρ l a) (y : Ev g prog w k sc φ₂ ρ r b) (o : Op2 g prog w k φ (subscriptTail l r) a b c) : Ev g prog w k sc φ ρ (.Subscript l r pos) c :=
  fun A env N s Q E hs hr z hQ => Subscript_ (Ev.use2 x y o hs hr z hQ)

theorem Op2.item {ds : List PyData} {i : Int} (h0 : 0 ≤ i) (hhi : i < 2 ^ 63) (hx : ds[i.toNat]? = some d) (hs : ∀ p t, subscripted r false (.ref p) (.int i t) = operate [.ref p, .int i t] (getItem (.ref p) (.int i t)) := by intro _ _; rfl) :
    Op2 g prog w k false (subscriptTail l r) (.list ds) (.int i) d := by
  intro A N s u v Q E hr cx hu hv hQ
  obtain ⟨p, rfl⟩ := hu.listRef
  cases hv
  obtain ⟨np, vs, n, ep, rp⟩ := hu.isList
  obtain ⟨x, hxv, hd⟩ := rp.get hx
  exact tail_any (isList_of ep).typeIs slot_list_getitem.lookup (wpAny_getItem_list (isList_of ep) h0 hhi (by simpa using hxv) (hQ s.heap s.toks x .refl (hd.weaken fun a _ n => n.elim id fun q => by cases q.1))) (hs _ _)
theorem Op2.key {kvs : List (PyData × PyData)} {kd : PyData} (ik : isKey kd = true) (hl : lookD kvs kd = some d) (hs : ∀ p q, subscripted r false (.ref p) (.ref q) = operate [.ref p, .ref q] (getItem (.ref p) (.ref q)) := by intro _ _; rfl) :
    Op2 g prog w k false (subscriptTail l r) (.dict kvs) kd d := by
  intro A N s u v Q E hr cx hu hv hQ
  obtain ⟨p, rfl⟩ := hu.dictRef
  have hku : ∃ q, v = .ref q := by
    cases kd <;> simp [isKey] at ik
    exact hv.tupRef
  obtain ⟨q, rfl⟩ := hku
  obtain ⟨_, es, n, hat⟩ := hu.dictAt (notOpen_look ik hl)
  exact tail_any (T := "dict") ⟨_, hat.1, rfl⟩ slot_dict_getitem.lookup (getItem_den hr.u80 hu ik hv hl fun v tk dv => hQ s.heap tk v .refl (dv.weaken fun a _ n => n.elim id fun q => by cases q.1)) (hs _ _)

/-- a part of a slice -/
noncomputable def EvP (g : G) (prog : Program) (w : World) (k : Nat) (sc : Scope) (ρ : Rho) : Option Expr → Option Int → Prop
  | none, none => True
  | some e, some i => Ev g prog w k sc false ρ e (.int i)
  | _, _ => False

theorem EvP.use {x : Option Expr} {i : Option Int} (p : EvP g prog w k sc ρ x i) {A : Around} {env : Env} {N : Addr → Prop} {s : Shared} {Q : Value → Shared → Prop} {E : Value → Shared → Prop} (hs : env.scope = sc) (hr : Room A k) (z : St g w N env s.heap ρ)
    (h : ∀ h' tk v, Mv g noO s.heap h' → IsPart v i → Q v { s with heap := h', toks := tk }) : wpAny (model prog w) A (evalPart x env) Q E s := by
  cases x with
  | none =>
    cases i with
    | none => rw [evalPart_none]; exact wpAny_pure (h s.heap s.toks _ .refl .none)
    | some i => exact p.elim
  | some e =>
    cases i with
    | none => exact p.elim
    | some i =>
      rw [evalPart_some]
      exact p A env N s Q E hs hr z fun h' tk v m d => h h' tk v m (by cases d; exact .int _ _)

theorem Ev.slice {ds es : List PyData} {lo hi st : Option Expr} {p : Pos} {i j m : Option Int} (x : Ev g prog w k sc false ρ l (.list ds)) (plo : EvP g prog w k sc ρ lo i) (phi : EvP g prog w k sc ρ hi j) (pst : EvP g prog w k sc ρ st m)
    (h0 : m ≠ some 0) (hsz : ds.length ≤ sizeLine) (hp : ∀ (N : Addr → Prop) (h : Heap) (vs : Array Value), DenL w N h ds vs.toList → DenL w N h es (slicePick vs i j m).toList) (hf : φ = true → flatDs es = true)
    (hs : ∀ p' q, ∃ ops, subscripted (.Slice lo hi st p) false (.ref p') (.ref q) = operate ops (getItem (.ref p') (.ref q))) : Ev g prog w k sc φ ρ (.Subscript l (.Slice lo hi st p) pos) (.list es) := by
  intro A env N s Q E hsc hr z hQ
  refine Subscript_ (x A env N s _ E hsc hr z fun h₁ t₁ u m₁ d₁ => ?_)
  refine wpAny_Slice (plo.use hsc hr (z.gr m₁) fun h₂ t₂ v₁ m₂ p₁ => phi.use hsc hr ((z.gr m₁).gr m₂) fun h₃ t₃ v₂ m₃ p₂ => pst.use hsc hr (((z.gr m₁).gr m₂).gr m₃) fun h₄ t₄ v₃ m₄ p₃ => ?_)
  obtain ⟨a, rfl⟩ := d₁.listRef
  have m14 := (m₂.trans m₃).trans m₄
  have z4 := (((z.gr m₁).gr m₂).gr m₃).gr m₄
  have d4 : Den w N h₄ (.list ds) (.ref a) := (den_plain d₁).chg (m14.chg z.cx.tabs fun _ q => q.elim) fun _ _ n => n
  obtain ⟨na, vs, n, ea, ra⟩ := d4.isList
  have ea' : (h₄.push { cls := .type "slice", data := .fields #[v₁, v₂, v₃] }).get? a = some ⟨.type "list", none, .seq vs n, #[]⟩ := Heap.get?_push_of_some _ ea
  obtain ⟨ops, hops⟩ := hs a h₄.objs.size
  have l1 := ra.length
  simp only [Array.length_toList] at l1
  refine tail_any (T := "list") ⟨_, ea', rfl⟩ slot_list_getitem.lookup ?_ hops
  refine wpAny_getItem_list_slice (isList_of ea') (Heap.IsSliceOf.new ..) p₁ p₂ p₃ h0 ?_ (by rw [← l1]; exact hsz)
  have mpush : Mv g noO h₄ (h₄.push { cls := .type "slice", data := .fields #[v₁, v₂, v₃] }) := .push _
  refine hQ _ t₄ _ ((m₁.trans m14).trans (mpush.trans (.push _))) ?_
  have r5 := ((hp _ _ _ ra).handed hf (h₀ := s.heap)).chg (.of fun b o e => Heap.get?_push_of_some { cls := .type "slice", data := .fields #[v₁, v₂, v₃] } e) (N' := fun a => N a ∨ (φ = true ∧ (s.heap.get? a).isSome)) fun _ _ n => n
  have := den_newList (g := g) (z4.gr mpush).cx r5 fun a n => n.elim (fun n => (z4.gr mpush).cx.live a n) fun q => mpush.live a (m14.live a (m₁.live a q.2))
  simpa using this

theorem pick_upto {n : Nat} {ds : List PyData} (N : Addr → Prop) (h : Heap) (vs : Array Value) (r : DenL w N h ds vs.toList) : DenL w N h (ds.take n) (slicePick vs none (some (n : Int)) none).toList := by
  rw [slicePick_upto']; simpa using r.take n
/-! tests and choices -/
theorem Tr.and2 {x y : Expr} {t u : Bool} (hx : Tr g prog w k sc ρ x t) (hy : t = true → Tr g prog w k sc ρ y u) : Tr g prog w k sc ρ (.BoolOp .And [x, y] pos) (t && u) := by
  intro A env N s Q E hs hr z hQ
  refine wpAny_isTrue_BoolOp (wpAny_allTrue_And_cons (hx A env N s _ E hs hr z fun h₁ t₁ m₁ => ?_))
  cases t with
  | false => exact hQ h₁ t₁ m₁
  | true =>
    refine wpAny_allTrue_And_cons (hy rfl A env N _ _ E hs hr (z.gr m₁) fun h₂ t₂ m₂ => ?_)
    cases u with
    | false => exact hQ h₂ t₂ (m₁.trans m₂)
    | true => exact wpAny_allTrue_And_nil (hQ h₂ t₂ (m₁.trans m₂))
theorem Tr.or2 {x y : Expr} {t u : Bool} (hx : Tr g prog w k sc ρ x t) (hy : t = false → Tr g prog w k sc ρ y u) : Tr g prog w k sc ρ (.BoolOp .Or [x, y] pos) (t || u) := by
  intro A env N s Q E hs hr z hQ
  refine wpAny_isTrue_BoolOp (wpAny_allTrue_Or_cons (hx A env N s _ E hs hr z fun h₁ t₁ m₁ => ?_))
  cases t with
  | true => exact hQ h₁ t₁ m₁
  | false =>
    refine wpAny_allTrue_Or_cons (hy rfl A env N _ _ E hs hr (z.gr m₁) fun h₂ t₂ m₂ => ?_)
    cases u with
    | true => exact hQ h₂ t₂ (m₁.trans m₂)
    | false => exact wpAny_allTrue_Or_nil (hQ h₂ t₂ (m₁.trans m₂))
theorem Tr.intV {i : Int} (x : Ev g prog w k sc φ₁ ρ e (.int i)) (he : ∀ env whole, isTrue e env whole = (do let v ← whole; standAt e.pos; holding [v] (truthy v)) := by intro _ _; rfl) : Tr g prog w k sc ρ e (i != 0) := by
  intro A env N s Q E hs hr z hQ
  refine wpAny_isTrue_value (x A env N s _ E hs hr z fun h₁ t₁ v m₁ dv => ?_) (he _ _)
  cases dv
  exact PyProof.Rows.truthy_int (hQ h₁ t₁ m₁)
theorem Tr.listV {ds : List PyData} (x : Ev g prog w k sc φ₁ ρ e (.list ds)) (hsz : ds.length < 2 ^ 62) (he : ∀ env whole, isTrue e env whole = (do let v ← whole; standAt e.pos; holding [v] (truthy v)) := by intro _ _; rfl) : Tr g prog w k sc ρ e (!ds.isEmpty) := by
  intro A env N s Q E hs hr z hQ
  refine wpAny_isTrue_value (x A env N s _ E hs hr z fun h₁ t₁ v m₁ dv => ?_) (he _ _)
  obtain ⟨a, rfl⟩ := dv.listRef
  obtain ⟨na, vs, n, ea, ra⟩ := dv.isList
  have l1 := ra.length
  simp only [Array.length_toList] at l1
  refine wpAny_truthy_list (isList_of ea) (by omega) ?_
  have : vs.isEmpty = ds.isEmpty := by
    rw [Bool.eq_iff_iff, Array.isEmpty_iff_size_eq_zero, ← l1, List.isEmpty_iff, List.length_eq_zero_iff]
  rw [this]
  exact hQ h₁ _ m₁
theorem Op2.inInts {ns : List Int} {i : Int} : Op2 g prog w k φ (compareOp .In) (.int i) (.tuple (ns.map .int)) (.bool (ns.any (· == i))) := by
  intro A N s u v Q E hr cx hu hv hQ
  cases hu
  cases hv with
  | tuple e hc hd r => exact in_tuple_ints ⟨_, e, hc, _, hd⟩ r.ints (hQ s.heap s.toks _ .refl (.bool _))
theorem Op2.notInInts {ns : List Int} {i : Int} : Op2 g prog w k φ (compareOp .NotIn) (.int i) (.tuple (ns.map .int)) (.bool (!(ns.any (· == i)))) := by
  intro A N s u v Q E hr cx hu hv hQ
  cases hu
  cases hv with
  | tuple e hc hd r => exact notin_tuple_ints ⟨_, e, hc, _, hd⟩ r.ints (hQ s.heap s.toks _ .refl (.bool _))
end
end Mine

namespace Mine
open Sem (wp)

/-! a list taken apart by a target of several -/
section
variable {prog : Program} {w : World} {A : Around} {E : Value → Shared → Prop}
theorem drawL {it t : Addr} {items : Array Value} (hne : t ≠ it) : ∀ (n i : Nat) (s : Shared) (Q : List Value → Shared → Prop), s.heap.IsListIter it t i → s.heap.IsList t items → i + n ≤ items.size →
    (∀ h', h'.IsListIter it t (i + n) → Heap.SameBut it s.heap h' → Q ((items.toList.drop i).take n) { s with heap := h' }) → wpAny (model prog w) A (draw (.ref it) n) Q E s
  | 0, i, s, Q, hit, _, _, hQ => by
    show wpAny _ _ (pure []) Q E s
    exact wpAny_pure (by simpa using hQ s.heap hit (Heap.SameBut.refl ..))
  | n + 1, i, s, Q, hit, ht, hle, hQ => by
    have hlt : i < items.size := by omega
    show wpAny _ _ (pyNext (.ref it) >>= _) Q E s
    refine wpAny_bind (wpAny_pyNext_list_item hit ht (x := items[i]) (by simp [hlt]) fun h₁ hit₁ hs₁ => ?_)
    refine wpAny_bind (wpAny_holding (drawL hne n (i + 1) _ _ hit₁ (ht.extBut hs₁.extBut hne) (by omega) fun h₂ hit₂ hs₂ => wpAny_pure ?_))
    have := hQ h₂ (by rw [show i + (n + 1) = i + 1 + n by omega]; exact hit₂) (hs₁.trans hs₂)
    rw [List.drop_eq_getElem_cons (by simpa using hlt), List.take_succ_cons] at this
    simpa using this

theorem unpackL {t : Addr} {items : Array Value} {Q : List Value → Shared → Prop} {s : Shared} (hh : A.handled = none) (ht : s.heap.IsList t items)
    (hQ : ∀ h', Heap.ExtBut s.heap.objs.size s.heap h' → Q items.toList { s with heap := h' }) : wpAny (model prog w) A (unpackItems (.ref t) items.size none) Q E s := by
  have hlt : t ≠ s.heap.objs.size := by obtain ⟨o, ho, _⟩ := ht; exact Nat.ne_of_lt (Heap.lt_size ho)
  unfold unpackItems
  refine wpAny_bind ?_
  · unfold notIterableAtAll
    refine wpAny_bind (wpAny_specialOf ht.typeIs slot_list_iter.lookup ?_)
    refine wpAny_pure ?_
    simp only [Bool.false_eq_true, if_false]
    refine wpAny_bind (wpAny_holding (wpAny_pyIter_list ht ?_))
    refine wpAny_bind (wpAny_holding (drawL hlt items.size 0 _ _ ⟨_, Heap.get?_push_size _ rfl, rfl, rfl⟩ (ht.push _) (by omega) fun h₁ hit₁ hs₁ => ?_))
    have hall : List.take items.size (List.drop 0 items.toList) = items.toList := by
      rw [List.drop_zero]; exact List.take_of_length_le (by simp)
    rw [hall]
    rw [if_neg (by simp)]
    have ht₁ : h₁.IsList t items := (ht.push _).extBut hs₁.extBut hlt
    refine wpAny_bind (wpAny_holding (wpAny_pyNext_list_end hh hit₁ ht₁ (by simp) fun h₂ he₂ => ?_))
    simp only [Option.isSome_none, Bool.false_eq_true, if_false]
    refine wpAny_pure (hQ h₂ fun b o hb e => he₂ b o hb (hs₁.extBut b o hb (Heap.get?_push_of_some _ e)))

theorem assignTupleL {env : Env} {elts : List Expr} {x1} {pos : Pos} {t : Addr} {items : Array Value} {Q : Unit → Shared → Prop} {s : Shared} (hh : A.handled = none) (ht : s.heap.IsList t items)
    (hn : (assignEach elts env).length = items.size) (hstar : (assignEach elts env).findIdx? (·.1) = none)
    (h : ∀ h', Heap.ExtBut s.heap.objs.size s.heap h' → wpAny (model prog w) A (assignInOrder ((assignEach elts env).map (·.2)) items.toList) Q E { s with heap := h' }) :
    wpAny (model prog w) A (assign (.Tuple elts x1 pos) env (.ref t)) Q E s := by
  rw [arm_assign_Tuple]
  refine wpAny_bind (wpAny_standAt ?_)
  unfold unpack
  rw [hn, hstar]
  exact wpAny_bind (wpAny_holding (unpackL hh ht h))
end
end Mine

namespace Mine
open Sem (wp)

/-- a key of the places that the names xs take -/
noncomputable def OwnN (env : Env) (xs : List Str) (a : Addr) : Prop := a = env.locals ∨ ∃ x ∈ xs, env.kindOf x = some .cell ∧ env.cells.lookup x = some a
theorem OwnN.own {env : Env} {xs : List Str} {a : Addr} (h : OwnN env xs a) : Own env a := h.elim .inl fun ⟨x, _, _, e⟩ => .inr ⟨x, e⟩
theorem OwnN.mono {env : Env} {xs ys : List Str} {a : Addr} (h : OwnN env xs a) (s : ∀ x ∈ xs, x ∈ ys) : OwnN env ys a := h.elim .inl fun ⟨x, m, e⟩ => .inr ⟨x, s x m, e⟩

/-- the places that a frame's stores can move: its locals and its own cells -/
noncomputable def OwnC (env : Env) (a : Addr) : Prop := a = env.locals ∨ ∃ x, env.kindOf x = some .cell ∧ env.cells.lookup x = some a
theorem OwnC.own {env : Env} {a : Addr} (h : OwnC env a) : Own env a := h.elim .inl fun ⟨x, _, e⟩ => .inr ⟨x, e⟩
theorem OwnN.c {env : Env} {xs : List Str} {a : Addr} (h : OwnN env xs a) : OwnC env a := h.elim .inl fun ⟨x, _, e⟩ => .inr ⟨x, e⟩

/-- a name that may be stored -/
noncomputable def storable (sc : Scope) (x : Str) : Bool := sc.names.lookup x == some .local || sc.names.lookup x == some .cell

mutual
/-- to take d apart by a target of names and tuples -/
inductive BindR : Expr → PyData → Rho → Rho → List Str → Prop
  | name {x : Str} {p : Pos} {d : PyData} {ρ : Rho} : BindR (.Name x p) d ρ ((x, d) :: ρ) [x]
  | tup {es : List Expr} {n : Nat} {p : Pos} {ds : List PyData} {ρ ρ' : Rho} {xs : List Str} : BindRs es ds ρ ρ' xs → BindR (.Tuple es n p) (.tuple ds) ρ ρ' xs
  | tupL {es : List Expr} {n : Nat} {p : Pos} {ds : List PyData} {ρ ρ' : Rho} {xs : List Str} : BindRs es ds ρ ρ' xs → BindR (.Tuple es n p) (.list ds) ρ ρ' xs
inductive BindRs : List Expr → List PyData → Rho → Rho → List Str → Prop
  | nil {ρ : Rho} : BindRs [] [] ρ ρ []
  | cons {e : Expr} {es : List Expr} {d : PyData} {ds : List PyData} {ρ ρ₁ ρ₂ : Rho} {xs ys : List Str} : BindR e d ρ ρ₁ xs → BindRs es ds ρ₁ ρ₂ ys → BindRs (e :: es) (d :: ds) ρ ρ₂ (xs ++ ys)
end

section
variable {g : G} {prog : Program} {w : World} {k j : Nat} {sc : Scope} {ρ ρ' : Rho} {N O : Addr → Prop} {h h' : Heap} {env : Env} {d : PyData} {v : Value} {x : Str}

theorem isCell_not {h : Heap} {c : Addr} {v : Option Value} (x : h.IsCell c v) : ∀ o, h.get? c = some o → ¬ TupObj o ∧ ¬ CodeObj o := fun o e => by
  obtain ⟨o', e', hd⟩ := x
  rw [e] at e'; cases e'
  refine ⟨fun t => ?_, fun t => ?_⟩
  · obtain ⟨_, vs, n, q⟩ := t; rw [hd] at q; cases q
  · obtain ⟨_, vs, q⟩ := t; rw [hd] at q; cases q
theorem ns_not {h : Heap} {c : Addr} {m : Str → Option Value} (x : h.Ns c m) : ∀ o, h.get? c = some o → ¬ TupObj o ∧ ¬ CodeObj o := fun o e => by
  obtain ⟨o', es, ep, e', hd, _⟩ := x
  rw [e] at e'; cases e'
  refine ⟨fun t => ?_, fun t => ?_⟩
  · obtain ⟨_, vs, n, q⟩ := t; rw [hd] at q; cases q
  · obtain ⟨_, vs, q⟩ := t; rw [hd] at q; cases q
theorem ns_some {h : Heap} {c : Addr} {m : Str → Option Value} (x : h.Ns c m) : (h.get? c).isSome := by
  obtain ⟨o', es, ep, e', _⟩ := x; rw [e']; rfl
theorem cell_some {h : Heap} {c : Addr} {v : Option Value} (x : h.IsCell c v) : (h.get? c).isSome := by
  obtain ⟨o', e', _⟩ := x; rw [e']; rfl
theorem ns_cell {h : Heap} {c : Addr} {v : Option Value} {m : Str → Option Value} (x : h.Ns c m) (y : h.IsCell c v) : False := by
  obtain ⟨o', es, ep, e', hd, _⟩ := x
  obtain ⟨o, e, hc⟩ := y
  rw [e] at e'; cases e'
  rw [hd] at hc; cases hc

/-- a store of a name -/
theorem store_sound {A : Around} {s : Shared} {Q : Unit → Shared → Prop} {E : Value → Shared → Prop} (hs : env.scope = sc) (hx : storable sc x = true) (z : St g w N env s.heap ρ) (hv : Den w N s.heap d v)
    (hQ : ∀ h' tk, Mv g (OwnN env [x]) s.heap h' → St g w N env h' ((x, d) :: ρ) → Q () { s with heap := h', toks := tk }) : wpAny (model prog w) A (storeName env x v) Q E s := by
  obtain ⟨m, hn⟩ := z.ok.loc
  have hkind := z.ok.kind
  have hp : (env.scope.kind == .class || (env.scope.kind == .module && env.locals != env.globals)) = false := by rw [hkind]; rfl
  have hk : env.kindOf x = some .local ∨ env.kindOf x = some .cell := by
    unfold Env.kindOf; rw [hs]
    simpa [storable] using hx
  rcases hk with hk | hk
  · refine wpAny_storeName_local hk hn (fun h' hn' hsb => ?_) hp
    have mv : Mv g (OwnN env [x]) s.heap h' := .one hsb.extBut (.inl rfl) (z.ok.own _ (.inl rfl)).2.2 (ns_not hn) (ns_some hn')
    refine hQ h' _ mv ⟨z.cx.mv mv fun a o => (z.ok.own a o.own).2.1, ⟨z.ok.kind, z.ok.glob, z.ok.blt, ⟨_, hn'⟩, fun y c e => ?_, z.ok.inj, z.ok.has, z.ok.own⟩, fun y e hy => ?_⟩
    · obtain ⟨u, hc⟩ := z.ok.cell y c e
      exact ⟨u, hc.sameBut hsb fun q => ns_cell hn (q ▸ hc)⟩
    · have cg : Chg N s.heap h' := mv.chg z.cx.tabs fun a o => (z.ok.own a o.own).1
      rw [List.lookup_cons] at hy
      by_cases q : y = x
      · subst q
        simp only [beq_self_eq_true] at hy
        cases hy
        exact ⟨v, .inl ⟨hk, _, hn', by simp⟩, hv.chg cg fun _ _ n => n⟩
      · rw [beq_eq_false_iff_ne.mpr q] at hy
        obtain ⟨u, hu, du⟩ := z.den y e hy
        refine ⟨u, ?_, du.chg cg fun _ _ n => n⟩
        rcases hu with ⟨a, m', n', e'⟩ | ⟨a, c, e', n'⟩
        · refine .inl ⟨a, _, hn', ?_⟩
          rw [if_neg q]
          obtain ⟨o1, es1, ep1, g1, d1, k1, f1⟩ := hn
          obtain ⟨o2, es2, ep2, g2, d2, k2, f2⟩ := n'
          rw [g1] at g2; cases g2
          rw [d1] at d2; cases d2
          rw [← f1, f2]; exact e'
        · exact .inr ⟨a, c, e', n'.sameBut hsb fun q => ns_cell hn (q ▸ n')⟩
  · obtain ⟨c, hc⟩ := z.ok.has x (.inl hk)
    obtain ⟨u, hu⟩ := z.ok.cell x c hc
    refine wpAny_storeName_cell hkind hk hc hu fun h' hu' hsb => ?_
    have hcL : env.locals ≠ c := fun q => ns_cell hn (q ▸ hu)
    have mv : Mv g (OwnN env [x]) s.heap h' := .one hsb.extBut (.inr ⟨x, by simp, hk, hc⟩) (z.ok.own _ (.inr ⟨x, hc⟩)).2.2 (isCell_not hu) (cell_some hu')
    refine hQ h' _ mv ⟨z.cx.mv mv fun a o => (z.ok.own a o.own).2.1, ⟨z.ok.kind, z.ok.glob, z.ok.blt, ⟨m, hn.sameBut hsb hcL⟩, fun y c' e => ?_, z.ok.inj, z.ok.has, z.ok.own⟩, fun y e hy => ?_⟩
    · by_cases q : c' = c
      · subst q; exact ⟨_, hu'⟩
      · obtain ⟨u', hc'⟩ := z.ok.cell y c' e
        exact ⟨u', hc'.sameBut hsb q⟩
    · have cg : Chg N s.heap h' := mv.chg z.cx.tabs fun a o => (z.ok.own a o.own).1
      rw [List.lookup_cons] at hy
      by_cases q : y = x
      · subst q
        simp only [beq_self_eq_true] at hy
        cases hy
        exact ⟨v, .inr ⟨.inl hk, c, hc, hu'⟩, hv.chg cg fun _ _ n => n⟩
      · rw [beq_eq_false_iff_ne.mpr q] at hy
        obtain ⟨u', hu', du⟩ := z.den y e hy
        refine ⟨u', ?_, du.chg cg fun _ _ n => n⟩
        rcases hu' with ⟨a, m', n', e'⟩ | ⟨a, c', e', n'⟩
        · exact .inl ⟨a, m', n'.sameBut hsb hcL, e'⟩
        · exact .inr ⟨a, c', e', n'.sameBut hsb fun z' => q (z.ok.inj y x c (z' ▸ e') hc)⟩

theorem assignEach_length : ∀ (es : List Expr) (env : Env), (assignEach es env).length = es.length
  | [], _ => rfl
  | e :: es, env => by
    cases e <;> simp [assignEach, assignEach_length es env]
theorem BindR.plain {t : Expr} {d : PyData} {ρ ρ' : Rho} {xs : List Str} (b : BindR t d ρ ρ' xs) : ∀ e p, t ≠ .Starred e p := by
  cases b <;> simp
theorem BindRs.plain : ∀ {es : List Expr} {ds : List PyData} {ρ ρ' : Rho} {xs : List Str}, BindRs es ds ρ ρ' xs → ∀ env, (assignEach es env).findIdx? (·.1) = none ∧ (assignEach es env).map (·.2) = es.map (fun e => assign e env) ∧ es.length = ds.length
  | _, _, _, _, _, .nil, _ => ⟨rfl, rfl, rfl⟩
  | e :: es, _, _, _, _, .cons b r, env => by
    obtain ⟨q1, q2, q3⟩ := BindRs.plain r env
    have := b.plain
    cases e <;> simp at this <;> simp [assignEach, q1, q2, q3, List.findIdx?_cons]

mutual
theorem assign_sound : ∀ {t : Expr} {d : PyData} {ρ ρ' : Rho} {xs : List Str} (b : BindR t d ρ ρ' xs) {v : Value} {A : Around} {s : Shared} {Q : Unit → Shared → Prop} {E : Value → Shared → Prop}, env.scope = sc → A.handled = none → (∀ x ∈ xs, storable sc x = true) →
    St g w N env s.heap ρ → Den w N s.heap d v → (∀ h' tk, Mv g (OwnN env xs) s.heap h' → St g w N env h' ρ' → Q () { s with heap := h', toks := tk }) → wpAny (model prog w) A (assign t env v) Q E s
  | _, _, _, _, _, .name, v, A, s, Q, E, hs, hh, hx, z, hv, hQ => wpAny_assign_Name (store_sound hs (hx _ (by simp)) z hv hQ)
  | _, _, _, _, _, .tup r, v, A, s, Q, E, hs, hh, hx, z, hv, hQ => by
    obtain ⟨q1, q2, q3⟩ := r.plain env
    obtain ⟨a, rfl⟩ := hv.tupRef
    cases hv with
    | @tuple a o vs nn _ e hc hd rr =>
      have hl := rr.length
      simp only [Array.length_toList] at hl
      refine wpAny_assign_Tuple hh ⟨o, e, hc, nn, hd⟩ (by rw [assignEach_length, q3, hl]) q1 fun h' hx' => ?_
      rw [q2]
      have hk : ∀ b o, s.heap.get? b = some o → h'.get? b = some o := fun b o e => hx' b o (Nat.ne_of_lt (Heap.lt_size e)) e
      refine assigns_sound r (vs := vs.toList) (s := { s with heap := h' }) hs hh hx (z.gr (.ofKeep hk)) (rr.chg (.of hk) fun _ _ n => n) fun h'' tk m z' => ?_
      exact hQ h'' tk ((Mv.ofKeep hk).trans m) z'
  | _, _, _, _, _, .tupL r, v, A, s, Q, E, hs, hh, hx, z, hv, hQ => by
    obtain ⟨q1, q2, q3⟩ := r.plain env
    obtain ⟨a, rfl⟩ := hv.listRef
    obtain ⟨_, vs, nn, e, rr⟩ := hv.isList
    have hl := rr.length
    simp only [Array.length_toList] at hl
    refine assignTupleL hh (isList_of e) (by rw [assignEach_length, q3, hl]) q1 fun h' hx' => ?_
    rw [q2]
    have hk : ∀ b o, s.heap.get? b = some o → h'.get? b = some o := fun b o e => hx' b o (Nat.ne_of_lt (Heap.lt_size e)) e
    refine assigns_sound r (vs := vs.toList) (s := { s with heap := h' }) hs hh hx (z.gr (.ofKeep hk)) (rr.chg (.of hk) fun _ _ n => n) fun h'' tk m z' => ?_
    exact hQ h'' tk ((Mv.ofKeep hk).trans m) z'
theorem assigns_sound : ∀ {es : List Expr} {ds : List PyData} {ρ ρ' : Rho} {xs : List Str} (b : BindRs es ds ρ ρ' xs) {vs : List Value} {A : Around} {s : Shared} {Q : Unit → Shared → Prop} {E : Value → Shared → Prop}, env.scope = sc → A.handled = none → (∀ x ∈ xs, storable sc x = true) →
    St g w N env s.heap ρ → DenL w N s.heap ds vs → (∀ h' tk, Mv g (OwnN env xs) s.heap h' → St g w N env h' ρ' → Q () { s with heap := h', toks := tk }) → wpAny (model prog w) A (assignInOrder (es.map fun e => assign e env) vs) Q E s
  | _, _, _, _, _, .nil, vs, A, s, Q, E, hs, hh, hx, z, hv, hQ => by
    cases hv
    exact wpAny_pure (hQ s.heap s.toks .refl z)
  | _, _, _, _, _, .cons b r, vs, A, s, Q, E, hs, hh, hx, z, hv, hQ => by
    cases hv with
    | cons x rr =>
      rw [List.map_cons]
      refine assignInOrder_cons (assign_sound b hs hh (fun y m => hx y (List.mem_append_left _ m)) z x fun h₁ t₁ m₁ z₁ => ?_)
      refine assigns_sound r hs hh (fun y m => hx y (List.mem_append_right _ m)) z₁ (rr.chg (m₁.chg z.cx.tabs fun a o => (z.ok.own a o.own).1) fun _ _ n => n) fun h₂ t₂ m₂ z₂ => ?_
      exact hQ h₂ t₂ ((m₁.mono fun a o => o.mono fun y m => List.mem_append_left _ m).trans (m₂.mono fun a o => o.mono fun y m => List.mem_append_right _ m)) z₂
end
end
end Mine

namespace Mine
open Sem (wp)

/-! a dict's items and values, whatever its keys -/
noncomputable abbrev DictRaw (h : Heap) (d : Addr) (es : Array DictEntry) (ep : Nat) : Prop := h.get? d = some ⟨.type "dict", none, .dict es ep, #[]⟩

section
variable {prog : Program} {w : World} {A : Around} {E : Value → Shared → Prop} {s : Shared}

theorem raw_typeIs {d : Addr} {es : Array DictEntry} {ep : Nat} (hm : DictRaw s.heap d es ep) : s.TypeIs (.ref d) "dict" := ⟨_, hm, rfl⟩

theorem raw_items {d : Addr} {es : Array DictEntry} {ep : Nat} {Q : Value → Shared → Prop} (hd : (d == sysModules) = false) (hm : DictRaw s.heap d es ep)
    (h : Q (.ref s.heap.objs.size) { s with heap := s.heap.push { cls := .type "dict_items", data := .fields #[.ref d] } }) : wpAny (model prog w) A (call (.builtin "dict.items") [.ref d]) Q E s := by
  refine wpAny_call_entry F.slot_dict_items (raw_typeIs hm) F.entry_dict_items ?_ (F.args_dict_items_1 _)
  unfold Builtin.«dict.items»
  refine wpAny_bind ?_
  unfold Builtin.Dict.noArgs
  refine wpAny_bind (wpAny_notOrdered_dict (raw_typeIs hm) ?_)
  show wpAny _ _ (pure d) _ _ s
  refine wpAny_pure ?_
  show wpAny _ _ (Builtin.Dict.showsAll d >>= _) _ _ s
  unfold Builtin.Dict.showsAll
  rw [if_neg (by rw [hd]; exact Bool.false_ne_true)]
  refine wpAny_bind (wpAny_pure ?_)
  exact wpAny_bind (wpAny_newObj_type (wpAny_pure ⟨_, rfl, h⟩))
theorem raw_values {d : Addr} {es : Array DictEntry} {ep : Nat} {Q : Value → Shared → Prop} (hd : (d == sysModules) = false) (hm : DictRaw s.heap d es ep)
    (h : Q (.ref s.heap.objs.size) { s with heap := s.heap.push { cls := .type "dict_values", data := .fields #[.ref d] } }) : wpAny (model prog w) A (call (.builtin "dict.values") [.ref d]) Q E s := by
  refine wpAny_call_entry F.slot_dict_values (raw_typeIs hm) F.entry_dict_values ?_ (F.args_dict_values_1 _)
  refine wpAny_bind ?_
  unfold Builtin.Dict.noArgs
  refine wpAny_bind (wpAny_notOrdered_dict (raw_typeIs hm) ?_)
  show wpAny _ _ (pure d) _ _ s
  refine wpAny_pure ?_
  show wpAny _ _ (Builtin.Dict.showsAll d >>= _) _ _ s
  unfold Builtin.Dict.showsAll
  rw [if_neg (by rw [hd]; exact Bool.false_ne_true)]
  refine wpAny_bind (wpAny_pure ?_)
  exact wpAny_bind (wpAny_newObj_type (wpAny_pure ⟨_, rfl, h⟩))

theorem raw_iter_items {v d : Addr} {es : Array DictEntry} {ep : Nat} {Q : Value → Shared → Prop} (hv : s.heap.IsItemsView v d) (hm : DictRaw s.heap d es ep)
    (hQ : Q (.ref s.heap.objs.size) { s with heap := s.heap.push { cls := .type "dict_itemiterator", data := .fields #[.none, .bool false, .ref d, .int 0 0, .int es.size 0, .int ep 0, .none, .none] } }) :
    wpAny (model prog w) A (pyIter (.ref v)) Q E s := by
  obtain ⟨ov, hov, hcv, hdv⟩ := id hv
  refine wpAny_pyIter_slot hv.typeIs F.slot_dict_items_iter (wpAny_call_entry F.slot_dict_items_iter hv.typeIs F.entry_dict_items_iter ?_ (F.args_dict_items_iter_1 _))
  unfold Builtin.«dict_items.__iter__»
  refine wpAny_bind (wpAny_pure ?_)
  refine wpAny_bind ?_
  unfold Builtin.Dict_items.dictOf
  refine wpAny_bind (wpAny_field hov hdv (x := .ref d) rfl (wpAny_pure ?_))
  refine wpAny_bind ?_
  unfold Builtin.Dict_items.newIterator
  refine wpAny_bind (wpAny_dictEntries hm rfl ?_)
  refine wpAny_bind (wpAny_dictEpoch hm rfl ?_)
  have hown : Builtin.Dict_items.ownsTuple "dict_itemiterator" = true := by decide
  simp only [hown, if_true]
  refine wpAny_newObj_type (wpAny_pure ⟨_, rfl, "dict_itemiterator", _, ⟨_, Heap.get?_push_size _ rfl, rfl⟩, F.slot_dict_itemiterator_next.lookup, ?_⟩)
    (by simp only [sizeOk, Builtin.Dict_items.ownedTupleFields, List.size_toArray, List.length_append, List.length_cons, List.length_nil, sizeLine_eq]; omega)
  simpa [rawInt, Builtin.Dict_items.ownedTupleFields] using hQ
theorem raw_iter_values {v d : Addr} {es : Array DictEntry} {ep : Nat} {Q : Value → Shared → Prop} (hv : s.heap.IsValuesView v d) (hm : DictRaw s.heap d es ep)
    (hQ : Q (.ref s.heap.objs.size) { s with heap := s.heap.push { cls := .type "dict_valueiterator", data := .fields #[.ref d, .int 0 0, .int es.size 0, .int ep 0] } }) :
    wpAny (model prog w) A (pyIter (.ref v)) Q E s := by
  obtain ⟨ov, hov, hcv, hdv⟩ := id hv
  refine wpAny_pyIter_slot hv.typeIs F.slot_dict_values_iter (wpAny_call_entry F.slot_dict_values_iter hv.typeIs F.entry_dict_values_iter ?_ (F.args_dict_values_iter_1 _))
  unfold Builtin.«dict_values.__iter__»
  refine wpAny_bind (wpAny_pure ?_)
  refine wpAny_bind ?_
  unfold Builtin.Dict_items.dictOf
  refine wpAny_bind (wpAny_field hov hdv (x := .ref d) rfl (wpAny_pure ?_))
  refine wpAny_bind ?_
  unfold Builtin.Dict_items.newIterator
  refine wpAny_bind (wpAny_dictEntries hm rfl ?_)
  refine wpAny_bind (wpAny_dictEpoch hm rfl ?_)
  have hown : Builtin.Dict_items.ownsTuple "dict_valueiterator" = false := by decide
  simp only [hown, Bool.false_eq_true, if_false]
  refine wpAny_newObj_type (wpAny_pure ⟨_, rfl, "dict_valueiterator", _, ⟨_, Heap.get?_push_size _ rfl, rfl⟩, F.slot_dict_valueiterator_next.lookup, ?_⟩)
  simpa [rawInt] using hQ

theorem raw_next_item {it d : Addr} {i ep : Nat} {es : Array DictEntry} {ok ov : Value} {Q : Option Value → Shared → Prop} (hit : IsItemIter s.heap it d i es.size ep ok ov)
    (hm : DictRaw s.heap d es ep) (hi : i < es.size)
    (hQ : ∀ h', IsItemIterOut h' it d (i + 1) es.size ep es[i].key es[i].val s.heap.objs.size →
      h'.get? s.heap.objs.size = some { cls := .type "tuple", data := .seq #[es[i].key, es[i].val] } → h'.objs.size = s.heap.objs.size + 1 →
      (∀ b o, b ≠ it → s.heap.get? b = some o → h'.get? b = some o) → Q (some (.ref s.heap.objs.size)) { s with heap := h' }) :
    wpAny (model prog w) A (pyNext (.ref it)) Q E s := by
  obtain ⟨hp, g, dr, tk, os⟩ := s
  have hT : Shared.TypeIs ⟨hp, g, dr, tk, os⟩ (.ref it) "dict_itemiterator" := ⟨_, hit, rfl⟩
  unfold pyNext
  refine wpAny_bind (wpAny_attempt (wpAny_callSpecial?_slot (name := Str.ofString "__next__") hT F.slot_dict_itemiterator_next
    (wpAny_call_entry F.slot_dict_itemiterator_next hT F.entry_dict_itemiterator_next ?_ (F.args_dict_itemiterator_next_1 _))))
  refine wpAny_bind (wpAny_pure ?_)
  refine wpAny_bind ?_
  refine wpAny_bind ?_
  first | refine wpAny_bind (wpAny_typeNameOfWhole_itemiter hT (wpAny_pure ?_)) | refine wpAny_bind (wpAny_typeNameOf_itemiter hT (wpAny_pure ?_))
  refine wpAny_bind (wpAny_fieldsOf hit rfl ?_)
  have hown : Builtin.Dict_items.ownsTuple "dict_itemiterator" = true := by decide
  simp only [hown, if_true]
  show wpAny _ _ (if (Value.ref d == Value.none) = true then _ else _) _ _ _
  rw [if_neg (show ¬ ((Value.ref d == Value.none) = true) from Bool.false_ne_true)]
  refine wpAny_bind (wpAny_pure ?_)
  refine wpAny_bind (wpAny_dictEntries hm rfl ?_)
  rw [if_neg (by simp)]
  refine wpAny_bind (wpAny_pure ?_)
  refine wpAny_bind (wpAny_dictEpoch hm rfl ?_)
  rw [if_neg (by simp)]
  refine wpAny_pure ?_
  simp only [show ¬ ((i : Int) < 0) from by omega, if_false, Int.toNat_natCast, Array.getElem?_eq_getElem hi]
  refine wpAny_bind ?_
  first | refine wpAny_bind (wpAny_typeNameOfWhole_itemiter hT (wpAny_pure ?_)) | refine wpAny_bind (wpAny_typeNameOf_itemiter hT (wpAny_pure ?_))
  refine wpAny_bind (wpAny_isOneOf_itemiter hT ?_)
  show wpAny _ _ (setField (.ref it) 3 (rawInt ((i : Int) + 1)) >>= _) _ _ ⟨hp, g, dr, tk, os⟩
  refine wpAny_bind (wpAny_setField_rec hit (by simp) fun h₁ he₁ hs₁ => ?_)
  replace hs₁ : Heap.SameBut it hp h₁ := hs₁
  replace he₁ : IsItemIter h₁ it d (i + 1) es.size ep ok ov := by
    have e : ((i + 1 : Nat) : Int) = (i : Int) + 1 := by omega
    unfold IsItemIter; rw [e]; simpa [rawInt] using he₁
  have hT₁ : Shared.TypeIs ⟨h₁, g, dr, tk, os⟩ (.ref it) "dict_itemiterator" := ⟨_, he₁, rfl⟩
  refine wpAny_bind (wpAny_holding ?_)
  refine wpAny_bind (wpAny_isOneOf_itemiter hT₁ ?_)
  refine wpAny_bind (wpAny_isOneOf_itemiter hT₁ ?_)
  show wpAny _ _ (Builtin.Dict_items.pairFromOwner (.ref it) 6 es[i].key es[i].val) _ _ ⟨h₁, g, dr, tk, os⟩
  unfold Builtin.Dict_items.pairFromOwner
  refine wpAny_bind (wpAny_newTuple ?_)
  have he₂ : IsItemIter (h₁.push { cls := .type "tuple", data := .seq #[es[i].key, es[i].val] }) it d (i + 1) es.size ep ok ov := Heap.get?_push_of_some _ he₁
  generalize hh₂ : h₁.push { cls := .type "tuple", data := .seq #[es[i].key, es[i].val] } = h₂ at he₂
  have hz₁ : h₁.objs.size = hp.objs.size := hs₁.1
  have hil : it < hp.objs.size := Heap.lt_size hit
  have ht₂ : h₂.get? hp.objs.size = some { cls := .type "tuple", data := .seq #[es[i].key, es[i].val] } := by rw [← hh₂, ← hz₁]; exact Heap.get?_push_size _ rfl
  have hz₂ : h₂.objs.size = hp.objs.size + 1 := by rw [← hh₂, Heap.size_push, hz₁]
  have hk₂ : ∀ b o, b ≠ it → hp.get? b = some o → h₂.get? b = some o := fun b o hb e => by rw [← hh₂]; exact Heap.get?_push_of_some _ (hs₁.extBut b o hb e)
  show wpAny _ _ (Builtin.Dict_items.ownedTupleIsFree (.ref it) >>= _) _ _ ⟨h₂, g, dr, tk, os⟩
  rw [hz₁]
  clear hh₂ he₁ hs₁ hT₁ hz₁ h₁
  refine wpAny_bind ?_
  unfold Builtin.Dict_items.ownedTupleIsFree
  refine wpAny_bind (wpAny_field he₂ rfl (x := .none) rfl (wpAny_pure ?_))
  simp only [if_true]
  refine wpAny_bind (wpAny_field he₂ rfl (x := ok) rfl ?_)
  refine wpAny_bind (wpAny_field he₂ rfl (x := ov) rfl ?_)
  refine wpAny_bind (wpAny_setField_rec he₂ (by simp) fun h₃ he₃ hs₃ => ?_)
  replace hs₃ : Heap.SameBut it h₂ h₃ := hs₃
  replace he₃ : IsItemIter h₃ it d (i + 1) es.size ep es[i].key ov := he₃
  refine wpAny_bind (wpAny_setField_rec he₃ (by simp) fun h₄ he₄ hs₄ => ?_)
  replace hs₄ : Heap.SameBut it h₃ h₄ := hs₄
  replace he₄ : IsItemIter h₄ it d (i + 1) es.size ep es[i].key es[i].val := he₄
  refine wpAny_bind (wpAny_setField_rec he₄ (by simp) fun h₅ he₅ hs₅ => ?_)
  replace hs₅ : Heap.SameBut it h₄ h₅ := hs₅
  replace he₅ : IsItemIterOut h₅ it d (i + 1) es.size ep es[i].key es[i].val hp.objs.size := he₅
  refine wpAny_bind (wpAny_setField_rec he₅ (by simp) fun h₆ he₆ hs₆ => ?_)
  replace hs₆ : Heap.SameBut it h₅ h₆ := hs₆
  replace he₆ : IsItemIterOut h₆ it d (i + 1) es.size ep es[i].key es[i].val hp.objs.size := he₆
  refine wpAny_bind (wpAny_letGo (wpAny_pure (wpAny_pure ⟨_, rfl, wpAny_pure (hQ h₆ he₆ ?_ ?_ ?_)⟩)))
  · exact hs₆.extBut _ _ (Nat.ne_of_gt hil) (hs₅.extBut _ _ (Nat.ne_of_gt hil) (hs₄.extBut _ _ (Nat.ne_of_gt hil) (hs₃.extBut _ _ (Nat.ne_of_gt hil) ht₂)))
  · show h₆.objs.size = hp.objs.size + 1
    rw [hs₆.1, hs₅.1, hs₄.1, hs₃.1, hz₂]
  · exact fun b o hb e => hs₆.extBut b o hb (hs₅.extBut b o hb (hs₄.extBut b o hb (hs₃.extBut b o hb (hk₂ b o hb e))))

theorem raw_next_items_end {it d : Addr} {i ep : Nat} {es : Array DictEntry} {ok ov : Value} {Q : Option Value → Shared → Prop} (hh : A.handled = none) (hit : IsItemIter s.heap it d i es.size ep ok ov)
    (hm : DictRaw s.heap d es ep) (hx : es.size ≤ i)
    (hQ : ∀ h', Heap.ExtBut it s.heap h' → Q none { s with heap := h' }) : wpAny (model prog w) A (pyNext (.ref it)) Q E s := by
  have hT : s.TypeIs (.ref it) "dict_itemiterator" := ⟨_, hit, rfl⟩
  unfold pyNext
  refine wpAny_bind (wpAny_attempt (wpAny_callSpecial?_slot (name := Str.ofString "__next__") hT F.slot_dict_itemiterator_next
    (wpAny_call_entry F.slot_dict_itemiterator_next hT F.entry_dict_itemiterator_next ?_ (F.args_dict_itemiterator_next_1 _))))
  refine wpAny_bind (wpAny_pure ?_)
  refine wpAny_bind ?_
  refine wpAny_bind ?_
  first | refine wpAny_bind (wpAny_typeNameOfWhole_itemiter hT (wpAny_pure ?_)) | refine wpAny_bind (wpAny_typeNameOf_itemiter hT (wpAny_pure ?_))
  refine wpAny_bind (wpAny_fieldsOf hit rfl ?_)
  have hown : Builtin.Dict_items.ownsTuple "dict_itemiterator" = true := by decide
  simp only [hown, if_true]
  show wpAny _ _ (if (Value.ref d == Value.none) = true then _ else _) _ _ s
  rw [if_neg (show ¬ ((Value.ref d == Value.none) = true) from Bool.false_ne_true)]
  refine wpAny_bind (wpAny_pure ?_)
  refine wpAny_bind (wpAny_dictEntries hm rfl ?_)
  rw [if_neg (by simp)]
  refine wpAny_bind (wpAny_pure ?_)
  refine wpAny_bind (wpAny_dictEpoch hm rfl ?_)
  rw [if_neg (by simp)]
  refine wpAny_pure ?_
  simp only [show ¬ ((i : Int) < 0) from by omega, if_false, Int.toNat_natCast, Array.getElem?_eq_none hx]
  refine wpAny_bind ?_
  first | refine wpAny_bind (wpAny_typeNameOfWhole_itemiter hT (wpAny_pure ?_)) | refine wpAny_bind (wpAny_typeNameOf_itemiter hT (wpAny_pure ?_))
  show wpAny _ _ (setField (.ref it) 2 .none >>= _) _ _ s
  refine wpAny_bind (wpAny_setField hit rfl (by simp) ?_)
  show wpAny _ _ (newExc (.type "StopIteration") [] >>= _) _ _ _
  refine wpAny_bind ?_
  simp only [newExc, newTuple]
  refine wpAny_bind (wpAny_newObj_type ?_ (by size_fits))
  refine wpAny_bind (m := firstArgMember _ _) (wpAny_of_eq (a := Value.none) (by first | rfl | (simp only [firstArgMember]; rfl)) ?_)
  refine wpAny_newObj_type ?_ (by size_fits)
  simp only [raiseNew]
  refine wpAny_bind (wpAny_handled ?_)
  rw [show A.in1.handled = none from hh]
  refine wpAny_bind (wpAny_pure (wpAny_throw ?_))
  refine wpAny_bind (wpAny_isInstance (T := "StopIteration") (b := true) ⟨_, Heap.get?_push_size _ rfl, rfl⟩ isSubtype_stop ?_)
  exact wpAny_pure (hQ _ (((Heap.SameBut.update ..).extBut.push _).push _))

theorem raw_next_value {it d : Addr} {i ep : Nat} {es : Array DictEntry} {Q : Option Value → Shared → Prop} (hit : s.heap.IsValIter it d i es.size ep)
    (hm : DictRaw s.heap d es ep) (hi : i < es.size)
    (hQ : ∀ h', h'.IsValIter it d (i + 1) es.size ep → Heap.SameBut it s.heap h' → Q (some es[i].val) { s with heap := h' }) :
    wpAny (model prog w) A (pyNext (.ref it)) Q E s := by
  obtain ⟨o, ho, hc, hd⟩ := id hit
  unfold pyNext
  refine wpAny_bind (wpAny_attempt (wpAny_callSpecial?_slot (name := Str.ofString "__next__") hit.typeIs F.slot_dict_valueiterator_next
    (wpAny_call_entry F.slot_dict_valueiterator_next hit.typeIs F.entry_dict_valueiterator_next ?_ (F.args_dict_valueiterator_next_1 _))))
  refine wpAny_bind (wpAny_pure ?_)
  refine wpAny_bind ?_
  refine wpAny_bind ?_
  first | refine wpAny_bind (wpAny_typeNameOfWhole_valiter hit.typeIs (wpAny_pure ?_)) | refine wpAny_bind (wpAny_typeNameOf_valiter hit.typeIs (wpAny_pure ?_))
  refine wpAny_bind (wpAny_fieldsOf ho hd ?_)
  have hown : Builtin.Dict_items.ownsTuple "dict_valueiterator" = false := by decide
  simp only [hown, Bool.false_eq_true, if_false]
  show wpAny _ _ (if (Value.ref d == Value.none) = true then _ else _) _ _ s
  rw [if_neg (show ¬ ((Value.ref d == Value.none) = true) from Bool.false_ne_true)]
  refine wpAny_bind (wpAny_pure ?_)
  refine wpAny_bind (wpAny_dictEntries hm rfl ?_)
  rw [if_neg (by simp)]
  refine wpAny_bind (wpAny_pure ?_)
  refine wpAny_bind (wpAny_dictEpoch hm rfl ?_)
  rw [if_neg (by simp)]
  refine wpAny_pure ?_
  simp only [show ¬ ((i : Int) < 0) from by omega, if_false, Int.toNat_natCast, Array.getElem?_eq_getElem hi]
  refine wpAny_bind ?_
  first | refine wpAny_bind (wpAny_typeNameOfWhole_valiter hit.typeIs (wpAny_pure ?_)) | refine wpAny_bind (wpAny_typeNameOf_valiter hit.typeIs (wpAny_pure ?_))
  refine wpAny_bind (wpAny_isOneOf_valiter hit.typeIs ?_)
  show wpAny _ _ (setField (.ref it) 1 (rawInt ((i : Int) + 1)) >>= _) _ _ s
  refine wpAny_bind (wpAny_setField ho hd (by simp) ?_)
  have hit' : (s.heap.update it (Obj.mapFields (·.setIfInBounds 1 (rawInt ((i : Int) + 1))))).IsValIter it d (i + 1) es.size ep :=
    ⟨_, Heap.get?_update_self _ ho (Obj.isFreed_of_fields (Obj.data_mapFields hd _)), (Obj.cls_mapFields ..).trans hc, by rw [Obj.data_mapFields hd]; simp [rawInt]⟩
  refine wpAny_bind (wpAny_holding ?_)
  refine wpAny_bind (wpAny_isOneOf_valiter (s := { s with heap := s.heap.update it (Obj.mapFields (·.setIfInBounds 1 (rawInt ((i : Int) + 1)))) }) hit'.typeIs ?_)
  refine wpAny_bind (wpAny_isOneOf_valiter (s := { s with heap := s.heap.update it (Obj.mapFields (·.setIfInBounds 1 (rawInt ((i : Int) + 1)))) }) hit'.typeIs ?_)
  show wpAny _ _ (pure es[i].val) _ _ _
  exact wpAny_pure (wpAny_pure ⟨_, rfl, wpAny_pure (hQ _ hit' (Heap.SameBut.update ..))⟩)

theorem raw_next_values_end {it d : Addr} {i ep : Nat} {es : Array DictEntry} {Q : Option Value → Shared → Prop} (hh : A.handled = none) (hit : s.heap.IsValIter it d i es.size ep)
    (hm : DictRaw s.heap d es ep) (hx : es.size ≤ i)
    (hQ : ∀ h', Heap.ExtBut it s.heap h' → Q none { s with heap := h' }) : wpAny (model prog w) A (pyNext (.ref it)) Q E s := by
  obtain ⟨o, ho, hc, hd⟩ := id hit
  unfold pyNext
  refine wpAny_bind (wpAny_attempt (wpAny_callSpecial?_slot (name := Str.ofString "__next__") hit.typeIs F.slot_dict_valueiterator_next
    (wpAny_call_entry F.slot_dict_valueiterator_next hit.typeIs F.entry_dict_valueiterator_next ?_ (F.args_dict_valueiterator_next_1 _))))
  refine wpAny_bind (wpAny_pure ?_)
  refine wpAny_bind ?_
  refine wpAny_bind ?_
  first | refine wpAny_bind (wpAny_typeNameOfWhole_valiter hit.typeIs (wpAny_pure ?_)) | refine wpAny_bind (wpAny_typeNameOf_valiter hit.typeIs (wpAny_pure ?_))
  refine wpAny_bind (wpAny_fieldsOf ho hd ?_)
  have hown : Builtin.Dict_items.ownsTuple "dict_valueiterator" = false := by decide
  simp only [hown, Bool.false_eq_true, if_false]
  show wpAny _ _ (if (Value.ref d == Value.none) = true then _ else _) _ _ s
  rw [if_neg (show ¬ ((Value.ref d == Value.none) = true) from Bool.false_ne_true)]
  refine wpAny_bind (wpAny_pure ?_)
  refine wpAny_bind (wpAny_dictEntries hm rfl ?_)
  rw [if_neg (by simp)]
  refine wpAny_bind (wpAny_pure ?_)
  refine wpAny_bind (wpAny_dictEpoch hm rfl ?_)
  rw [if_neg (by simp)]
  refine wpAny_pure ?_
  simp only [show ¬ ((i : Int) < 0) from by omega, if_false, Int.toNat_natCast, Array.getElem?_eq_none hx]
  refine wpAny_bind ?_
  first | refine wpAny_bind (wpAny_typeNameOfWhole_valiter hit.typeIs (wpAny_pure ?_)) | refine wpAny_bind (wpAny_typeNameOf_valiter hit.typeIs (wpAny_pure ?_))
  show wpAny _ _ (setField (.ref it) 0 .none >>= _) _ _ s
  refine wpAny_bind (wpAny_setField ho hd (by simp) ?_)
  show wpAny _ _ (newExc (.type "StopIteration") [] >>= _) _ _ _
  refine wpAny_bind ?_
  simp only [newExc, newTuple]
  refine wpAny_bind (wpAny_newObj_type ?_ (by size_fits))
  refine wpAny_bind (m := firstArgMember _ _) (wpAny_of_eq (a := Value.none) (by first | rfl | (simp only [firstArgMember]; rfl)) ?_)
  refine wpAny_newObj_type ?_ (by size_fits)
  simp only [raiseNew]
  refine wpAny_bind (wpAny_handled ?_)
  rw [show A.in1.handled = none from hh]
  refine wpAny_bind (wpAny_pure (wpAny_throw ?_))
  refine wpAny_bind (wpAny_isInstance (T := "StopIteration") (b := true) ⟨_, Heap.get?_push_size _ rfl, rfl⟩ isSubtype_stop ?_)
  exact wpAny_pure (hQ _ (((Heap.SameBut.update ..).extBut.push _).push _))
end
end Mine

namespace Mine
open Sem (wp)

noncomputable def Off (I : Addr) (h h' : Heap) : Prop := ∀ b o, b ≠ I → h.get? b = some o → h'.get? b = some o
/-- an object that may be changed: no tuple, no code -/
noncomputable def Soft (o : Obj) : Prop := ¬ TupObj o ∧ ¬ CodeObj o

/-- an iterator I over the data ds: X i says that i are taken -/
structure Itr (prog : Program) (w : World) (N : Addr → Prop) (A : Around) (tgt : Expr) (I : Addr) (ds : List PyData) (X : Nat → Heap → Prop) : Prop where
  frame : ∀ i h h', X i h → h'.get? I = h.get? I → Chg N h h' → X i h'
  soft : ∀ i h, X i h → ∃ o, h.get? I = some o ∧ Soft o ∧ ∃ vs, o.data = .fields vs
  step : ∀ i d (s : Shared) (Q : Value → Shared → Prop) (E : Value → Shared → Prop), ds[i]? = some d → X i s.heap →
    (∀ h' tk v, X (i + 1) h' → Den w N h' d v → Off I s.heap h' → Q v { s with heap := h', toks := tk }) →
    wpAny (model prog w) A (pyNext (.ref I)) (fun r s₁ => ∃ v, r = some v ∧ wpAny (model prog w) A (letOwnedTupleGo tgt (.ref I) v) (fun _ s₂ => Q v s₂) E s₁) E s
  done : ∀ (s : Shared) (Q : Option Value → Shared → Prop) (E : Value → Shared → Prop), X ds.length s.heap → (∀ h' tk, Off I s.heap h' → Q none { s with heap := h', toks := tk }) → wpAny (model prog w) A (pyNext (.ref I)) Q E s
  self : ∀ i (s : Shared) (Q : Value → Shared → Prop) (E : Value → Shared → Prop), X i s.heap → Q (.ref I) s → wpAny (model prog w) A (pyIter (.ref I)) Q E s

section
variable {g : G} {prog : Program} {w : World} {k j : Nat} {sc : Scope} {φ φ₁ φ₂ φ₃ : Bool} {ρ : Rho} {N : Addr → Prop} {A : Around}

theorem letOwned_nottuple {tgt : Expr} {it v : Value} {s : Shared} {Q : Unit → Shared → Prop} {E : Value → Shared → Prop} (h : Q () s) (I : Addr) (hI : it = .ref I) {o : Obj} {n : String} {vs : Array Value} (e : s.heap.get? I = some o) (hc : o.cls = .type n) (hd : o.data = .fields vs)
    (hn : (["enumerate", "zip", "dict_itemiterator", "dict_reverseitemiterator", "odict_iterator", "itertools.zip_longest", "itertools.pairwise"].contains n) = false) : wpAny (model prog w) A (letOwnedTupleGo tgt it v) Q E s := by
  subst hI
  unfold letOwnedTupleGo
  split
  · split
    · rename_i r a heq
      cases heq
      refine wpAny_bind (wpAny_load e ?_)
      rw [hc, hd]
      simp only [hn, Bool.false_and, Bool.false_eq_true, if_false]
      exact wpAny_pure h
    · exact wpAny_pure h
  · split
    · rename_i r a heq
      cases heq
      refine wpAny_bind (wpAny_load e ?_)
      rw [hc, hd]
      simp only [hn, Bool.false_and, Bool.false_eq_true, if_false]
      exact wpAny_pure h
    · exact wpAny_pure h
  · exact wpAny_pure h

theorem chg_of_off {I : Addr} {h h' : Heap} (k : Off I h h') (hI : N I) {o : Obj} (e : h.get? I = some o) (ht : ¬ TupObj o) : Chg N h h' := fun b o' e' t => by
  by_cases q : b = I
  · subst q
    rw [e] at e'; cases e'
    exact t.elim (fun t => absurd hI t) fun t => absurd t ht
  · exact k b o' q e'
theorem soft_fields {o : Obj} {vs : Array Value} {n : String} (hd : o.data = .fields vs) (hc : o.cls = .type n) (hn : n ≠ "code") : Soft o := by
  refine ⟨fun t => ?_, fun t => ?_⟩
  · obtain ⟨_, vs, n, q⟩ := t; rw [hd] at q; cases q
  · rw [t.1] at hc; cases hc; exact hn rfl

/-- a list that stands -/
theorem Itr.list {tgt : Expr} (hh : A.handled = none) {I a : Addr} {ds : List PyData} (hI : N I) : Itr prog w N A tgt I ds (fun i h => h.IsListIter I a i ∧ Den w N h (.list ds) (.ref a)) where
  frame := fun i h h' x e c => ⟨by obtain ⟨o, q, r⟩ := x.1; exact ⟨o, e.trans q, r⟩, x.2.chg c fun _ _ n => n⟩
  soft := fun i h x => by
    obtain ⟨o, e, hc, hd⟩ := x.1
    exact ⟨o, e, soft_fields hd hc (by decide), _, hd⟩
  step := fun i d s Q E hd x hQ => by
    obtain ⟨hit, hD⟩ := x
    obtain ⟨na, vs, n, ea, ra⟩ := hD.isList
    obtain ⟨v, hv, dv⟩ := ra.get hd
    refine wpAny_pyNext_list_item hit (isList_of ea) (by simpa using hv) fun h' hit' hs => ⟨v, rfl, ?_⟩
    obtain ⟨o, e, hc, hdd⟩ := hit
    have c : Chg N s.heap h' := chg_of_off hs.extBut hI e (soft_fields hdd hc (by decide)).1
    obtain ⟨o', e', hc', hd'⟩ := hit'
    refine letOwned_nottuple ?_ I rfl e' hc' hd' (by decide)
    exact hQ h' s.toks v ⟨⟨o', e', hc', hd'⟩, hD.chg c fun _ _ n => n⟩ (dv.chg c fun _ _ n => n) hs.extBut
  done := fun s Q E x hQ => by
    obtain ⟨hit, hD⟩ := x
    obtain ⟨na, vs, n, ea, ra⟩ := hD.isList
    exact wpAny_pyNext_list_end hh hit (isList_of ea) (by have := ra.length; simp only [Array.length_toList] at this; simp [this]) fun h' he => hQ h' s.toks he
  self := fun i s Q E x hQ => wpAny_pyIter_listiter x.1 hQ

/-- the ints 0 .. n - 1 -/
noncomputable def rngD (n : Nat) : List PyData := (List.range n).map (fun i : Nat => PyData.int (i : Int))
theorem Itr.range {tgt : Expr} (hh : A.handled = none) {I : Addr} {n : Nat} : Itr prog w N A tgt I (rngD n) (fun i h => IsRangeIter h I (i : Int) ((n : Int) - (i : Nat)) 1) where
  frame := fun i h h' x e c => e.trans x
  soft := fun i h x => ⟨_, x, soft_fields rfl rfl (by decide), _, rfl⟩
  step := fun i d s Q E hd x hQ => by
    have hi : i < n := by
      have := (List.getElem?_eq_some_iff.mp hd).1
      simpa [rngD] using this
    have hdi : d = .int (i : Int) := by
      simp only [rngD, List.getElem?_map, List.getElem?_range hi, Option.map_some, Option.some.injEq] at hd
      exact hd.symm
    subst hdi
    refine wpAny_pyNext_range_item x (by omega) fun h' hit' hs => ⟨_, rfl, ?_⟩
    have e2 : (n : Int) - ((i + 1 : Nat) : Int) = (n : Int) - (i : Int) - 1 := by push_cast; omega
    have e1 : ((i + 1 : Nat) : Int) = (i : Int) + 1 := by push_cast; rfl
    refine letOwned_nottuple ?_ I rfl hit' rfl rfl (by decide)
    exact hQ h' _ _ (by rw [e1, show (n : Int) - ((i : Int) + 1) = (n : Int) - (i : Int) - 1 by omega]; exact hit') (.int _ _) hs.extBut
  done := fun s Q E x hQ => wpAny_pyNext_range_end hh x (by simp [rngD]) fun h' he => hQ h' s.toks he
  self := fun i s Q E x hQ => wpAny_pyIter_rangeiter x hQ

/-- a dict's items -/
noncomputable def itemsD (kvs : List (PyData × PyData)) : List PyData := kvs.map fun p => .tuple [p.1, p.2]
theorem Itr.items {elts : List Expr} {x1 : Nat} {pos : Pos} (hh : A.handled = none) {I d : Addr} {kvs : List (PyData × PyData)} {es : List DictEntry} {ep : Nat} (hI : N I) (hne : d ≠ I) (hd : ¬ N d) :
    Itr prog w N A (.Tuple elts x1 pos) I (itemsD kvs) (fun i h => (∃ ok ov, IsItemIter h I d i es.length ep ok ov) ∧ DictAtD w N h d kvs es ep) where
  frame := fun i h h' x e c => ⟨by obtain ⟨ok, ov, q⟩ := x.1; exact ⟨ok, ov, e.trans q⟩, c _ _ x.2.1 (.inl hd), x.2.2.1.chg c fun _ _ n => n, x.2.2.2⟩
  soft := fun i h x => by obtain ⟨ok, ov, q⟩ := x.1; exact ⟨_, q, soft_fields rfl rfl (by decide), _, rfl⟩
  step := fun i dd s Q E hdd x hQ => by
    obtain ⟨⟨ok, ov, hit⟩, hD⟩ := x
    have hi : i < es.length := by
      have := (List.getElem?_eq_some_iff.mp hdd).1
      rw [hD.2.1.length]
      simpa [itemsD] using this
    obtain ⟨⟨kd, vd⟩, hkv⟩ : ∃ p, kvs[i]? = some p := ⟨kvs[i]'(by rw [← hD.2.1.length]; exact hi), by simp⟩
    have hdd' : dd = .tuple [kd, vd] := by
      simp only [itemsD, List.getElem?_map, hkv, Option.map_some, Option.some.injEq] at hdd
      exact hdd.symm
    subst hdd'
    obtain ⟨ka, va, hes, ik, dk, dv⟩ := hD.2.1.get hkv
    have hea : es.toArray[i]'(by simpa using hi) = ⟨hashD w kd, .ref ka, va⟩ := by
      have := List.getElem?_eq_some_iff.mp hes
      simpa using this.2
    refine raw_next_item (es := es.toArray) (d := d) (ep := ep) (ok := ok) (ov := ov) (by simpa using hit) hD.1 (by simpa using hi) fun h' ho hT hsz hk => ⟨_, rfl, ?_⟩
    rw [hea] at ho hT
    refine wpAny_letOwnedTupleGo_items ho fun h'' he hs => ?_
    have k2 : Off I s.heap h'' := fun b o n e => hs.extBut b o n (hk b o n e)
    have c : Chg N s.heap h'' := chg_of_off k2 hI hit (soft_fields (n := "dict_itemiterator") rfl rfl (by decide)).1
    refine hQ h'' s.toks _ ⟨⟨_, _, by simpa using he⟩, k2 _ _ hne hD.1, hD.2.1.chg c fun _ _ n => n, hD.2.2⟩ ?_ k2
    have hTI : s.heap.objs.size ≠ I := Nat.ne_of_gt (Heap.lt_size hit)
    exact .tuple (hs.extBut _ _ hTI hT) rfl rfl (.cons (dk.chg c fun _ _ n => n) (.cons (dv.chg c fun _ _ n => n) .nil))
  done := fun s Q E x hQ => by
    obtain ⟨⟨ok, ov, hit⟩, hD⟩ := x
    exact raw_next_items_end (es := es.toArray) (d := d) (ep := ep) hh (by simpa using hit) hD.1 (by simp [itemsD, hD.2.1.length]) fun h' he => hQ h' s.toks he
  self := fun i s Q E x hQ => by obtain ⟨⟨ok, ov, hit⟩, hD⟩ := x; exact PySem.W.kcp_self hit hQ

noncomputable def valuesD (kvs : List (PyData × PyData)) : List PyData := kvs.map fun p => p.2
theorem Itr.values {tgt : Expr} (hh : A.handled = none) {I d : Addr} {kvs : List (PyData × PyData)} {es : List DictEntry} {ep : Nat} (hI : N I) (hne : d ≠ I) (hd : ¬ N d) :
    Itr prog w N A tgt I (valuesD kvs) (fun i h => h.IsValIter I d i es.length ep ∧ DictAtD w N h d kvs es ep) where
  frame := fun i h h' x e c => ⟨by obtain ⟨o, q, r⟩ := x.1; exact ⟨o, e.trans q, r⟩, c _ _ x.2.1 (.inl hd), x.2.2.1.chg c fun _ _ n => n, x.2.2.2⟩
  soft := fun i h x => by obtain ⟨o, e, hc, hd⟩ := x.1; exact ⟨o, e, soft_fields hd hc (by decide), _, hd⟩
  step := fun i dd s Q E hdd x hQ => by
    obtain ⟨hit, hD⟩ := x
    have hi : i < es.length := by
      have := (List.getElem?_eq_some_iff.mp hdd).1
      rw [hD.2.1.length]
      simpa [valuesD] using this
    obtain ⟨⟨kd, vd⟩, hkv⟩ : ∃ p, kvs[i]? = some p := ⟨kvs[i]'(by rw [← hD.2.1.length]; exact hi), by simp⟩
    have hdd' : dd = vd := by
      simp only [valuesD, List.getElem?_map, hkv, Option.map_some, Option.some.injEq] at hdd
      exact hdd.symm
    subst hdd'
    obtain ⟨ka, va, hes, ik, dk, dv⟩ := hD.2.1.get hkv
    have hea : es.toArray[i]'(by simpa using hi) = ⟨hashD w kd, .ref ka, va⟩ := by
      have := List.getElem?_eq_some_iff.mp hes
      simpa using this.2
    refine raw_next_value (es := es.toArray) (d := d) (ep := ep) (by simpa using hit) hD.1 (by simpa using hi) fun h' ho hs => ⟨_, rfl, ?_⟩
    rw [hea]
    obtain ⟨o, e, hc, hdt⟩ := hit
    have c : Chg N s.heap h' := chg_of_off hs.extBut hI e (soft_fields hdt hc (by decide)).1
    obtain ⟨o', e', hc', hd'⟩ := ho
    refine letOwned_nottuple ?_ I rfl e' hc' hd' (by decide)
    exact hQ h' s.toks _ ⟨⟨o', e', hc', by simpa using hd'⟩, hs.extBut _ _ hne hD.1, hD.2.1.chg c fun _ _ n => n, hD.2.2⟩ (dv.chg c fun _ _ n => n) hs.extBut
  done := fun s Q E x hQ => by
    obtain ⟨hit, hD⟩ := x
    exact raw_next_values_end (es := es.toArray) (d := d) (ep := ep) hh (by simpa using hit) hD.1 (by simp [valuesD, hD.2.1.length]) fun h' he => hQ h' s.toks he
  self := fun i s Q E x hQ => wpAny_pyIter_valiter x.1 hQ

/-- a source of items: it is read and asked for an iterator; the iterator is new -/
noncomputable def Src (g : G) (prog : Program) (w : World) (k : Nat) (sc : Scope) (ρ : Rho) (tgt : Expr) (e : Expr) (ds : List PyData) : Prop :=
  ∀ (A : Around) (env : Env) (N : Addr → Prop) (s : Shared) (Q : Value → Shared → Prop) (E : Value → Shared → Prop), env.scope = sc → Room A k → St g w N env s.heap ρ →
    (∀ h' tk I, Mv g noO s.heap h' → s.heap.get? I = none → (h'.get? I).isSome →
      (∀ O : Addr → Prop, O I → (∀ a, O a → a = I ∨ h'.get? a = none) → ∃ X, Itr prog w (fun a => N a ∨ O a) A tgt I ds X ∧ X 0 h') → Q (.ref I) { s with heap := h', toks := tk }) →
    wpAny (model prog w) A (eval e env) (fun x s₁ => wpAny (model prog w) A (pyIter x) Q E s₁) E s
end
end Mine

namespace Mine
open Sem (wp)

noncomputable abbrev testsOf (ifs : List Expr) (env : Env) : Sem Bool := forIn ifs true fun c r => if r = true then do let ok ← isTrue c env (eval c env); pure (ForInStep.yield ok) else pure (ForInStep.yield r)

theorem compTurn_emit {gens : List Comprehension} {depth : Nat} {elt t iter : Expr} {ifs : List Expr} {scope : Scope} {pos : Pos} {it acc : Value} {env : Env} (hc : gens[depth]? = some ⟨t, iter, ifs, 0⟩) (hn : gens[depth + 1]? = none) :
    compTurn (.ListComp elt gens scope pos) depth it acc env = (standAt iter.pos >>= fun _ => pyNext it >>= fun r => match r with
      | none => pure (.done .next)
      | some v => letOwnedTupleGo t it v >>= fun _ => assign t env v >>= fun _ => testsOf ifs env >>= fun ok =>
        (if ok = true then (eval elt env >>= fun x => call (.builtin "list.append") [acc, x] >>= fun _ => pure ()) else pure ()) >>= fun _ => again (.compLoop (.ListComp elt gens scope pos) depth it acc env)) := by
  unfold compTurn
  dsimp only
  simp only [hc, hn]
  simp only [bne_self_eq_false, Bool.false_eq_true, if_false, bind_assoc, pure_bind]
  refine bind_congr fun _ => bind_congr fun r => ?_
  cases r with
  | none => rfl
  | some v =>
    refine bind_congr (x := letOwnedTupleGo t it v) fun _ => bind_congr (x := assign t env v) fun _ => bind_congr (x := testsOf ifs env) fun ok => ?_
    cases ok
    · simp
    · simp

theorem compTurn_next {gens : List Comprehension} {depth : Nat} {elt t iter t' iter' : Expr} {ifs ifs' : List Expr} {scope : Scope} {pos : Pos} {it acc : Value} {env : Env} (hc : gens[depth]? = some ⟨t, iter, ifs, 0⟩) (hn : gens[depth + 1]? = some ⟨t', iter', ifs', 0⟩) :
    compTurn (.ListComp elt gens scope pos) depth it acc env = (standAt iter.pos >>= fun _ => pyNext it >>= fun r => match r with
      | none => pure (.done .next)
      | some v => letOwnedTupleGo t it v >>= fun _ => assign t env v >>= fun _ => testsOf ifs env >>= fun ok =>
        (if ok = true then (eval iter' env >>= fun x => standAt iter'.pos >>= fun _ => foldedSetIterable iter' env x >>= fun x => holding [x] (pyIter x) >>= fun i => runOwn (.compStart (.ListComp elt gens scope pos) (depth + 1) i acc env) env >>= fun _ => pure ()) else pure ()) >>= fun _ => again (.compLoop (.ListComp elt gens scope pos) depth it acc env)) := by
  unfold compTurn
  dsimp only
  simp only [hc, hn]
  simp only [bne_self_eq_false, Bool.false_eq_true, if_false, bind_assoc, pure_bind]
  refine bind_congr fun _ => bind_congr fun r => ?_
  cases r with
  | none => rfl
  | some v =>
    refine bind_congr (x := letOwnedTupleGo t it v) fun _ => bind_congr (x := assign t env v) fun _ => bind_congr (x := testsOf ifs env) fun ok => ?_
    cases ok
    · simp
    · simp
/-- the heap moves, and I may go -/
structure MvX (g : G) (O : Addr → Prop) (I : Addr) (h h' : Heap) : Prop where
  keep : ∀ b o, h.get? b = some o → ((¬ g.T b ∧ ¬ O b) ∨ TupObj o) → h'.get? b = some o
  ti : g.TI h → g.TI h'
  live : ∀ b, b ≠ I → (h.get? b).isSome → (h'.get? b).isSome

section
variable {g : G} {O O' : Addr → Prop} {I : Addr} {h h' h₁ h₂ h₃ : Heap}
theorem MvX.one (k : ∀ b o, b ≠ I → h.get? b = some o → h'.get? b = some o) (hO : O I) (hT : ¬ g.T I) (ho : ∀ o, h.get? I = some o → ¬ TupObj o ∧ ¬ CodeObj o) : MvX g O I h h' where
  keep := fun b o e n => by
    by_cases q : b = I
    · subst q
      rcases n with n | n
      · exact absurd hO n.2
      · exact absurd n (ho o e).1
    · exact k b o q e
  ti := fun t => g.tkeep h h' t fun b o e c => by
    by_cases q : b = I
    · subst q
      rcases c with c | c
      · exact absurd c hT
      · exact absurd c (ho o e).2
    · exact k b o q e
  live := fun b q e => by
    cases z : h.get? b with
    | none => rw [z] at e; cases e
    | some o => rw [k b o q z]; rfl
theorem MvX.after (x : Mv g O h₁ h₂) (y : MvX g O I h₂ h₃) : MvX g O I h₁ h₃ := ⟨fun b o e n => y.keep b o (x.keep b o e n) n, fun t => y.ti (x.ti t), fun b q e => y.live b q (x.live b e)⟩
theorem MvX.mono (x : MvX g O I h h') (s : ∀ a, O a → O' a) : MvX g O' I h h' := ⟨fun b o e n => x.keep b o e (n.elim (fun n => .inl ⟨n.1, fun q => n.2 (s _ q)⟩) .inr), x.ti, x.live⟩
theorem MvX.fresh (x : Mv g O h₁ h₂) (y : MvX g O' I h₂ h₃) (hI : h₁.get? I = none) (s : ∀ a, O' a → O a ∨ h₁.get? a = none) : Mv g O h₁ h₃ :=
  ⟨fun b o e n => y.keep b o (x.keep b o e n) (n.elim (fun n => .inl ⟨n.1, fun q => (s _ q).elim n.2 fun z => by rw [e] at z; cases z⟩) .inr), fun t => y.ti (x.ti t), fun b e => y.live b (fun q => by rw [q, hI] at e; cases e) (x.live b e)⟩
theorem MvX.chg {N : Addr → Prop} (x : MvX g O I h h') (hT : ∀ a, g.T a → N a) (hO : ∀ a, O a → N a) : Chg N h h' :=
  fun b o e n => x.keep b o e (n.elim (fun n => .inl ⟨fun q => n (hT _ q), fun q => n (hO _ q)⟩) .inr)
theorem St.mvx {w : World} {N : Addr → Prop} {env : Env} {ρ : Rho} (z : St g w N env h ρ) (x : MvX g (fun a => a = I) I h h') (hN : N I) (hI : ¬ Own env I ∧ g.base.get? I = none ∧ ¬ g.T I) : St g w (fun a => N a ∧ a ≠ I) env h' ρ where
  cx := ⟨fun b o e => x.keep b o (z.cx.glo b o e) (.inl ⟨fun q => (by rw [g.tnone b q] at e; cases e), fun q => (by rw [q, hI.2.1] at e; cases e)⟩), fun a n => x.live a n.2 (z.cx.live a n.1), ⟨z.cx.mods, fun q => by have := g.mods; rw [q, hI.2.1] at this; cases this⟩,
    fun a t => ⟨z.cx.tabs a t, fun q => hI.2.2 (q ▸ t)⟩, x.ti z.cx.ti⟩
  ok := ⟨z.ok.kind, z.ok.glob, z.ok.blt, by
      obtain ⟨m, o, es, ep, e, r⟩ := z.ok.loc
      exact ⟨m, o, es, ep, x.keep _ o e (.inl ⟨(z.ok.own _ (.inl rfl)).2.2, fun q => hI.1 (.inl q.symm)⟩), r⟩,
    fun y c e => by
      obtain ⟨v, o, e', r⟩ := z.ok.cell y c e
      exact ⟨v, o, x.keep _ o e' (.inl ⟨(z.ok.own _ (.inr ⟨y, e⟩)).2.2, fun q => hI.1 (.inr ⟨y, q ▸ e⟩)⟩), r⟩,
    z.ok.inj, z.ok.has, fun a o => ⟨⟨(z.ok.own a o).1, fun q => hI.1 (q ▸ o)⟩, (z.ok.own a o).2⟩⟩
  den := fun y d e => by
    obtain ⟨v, a, b⟩ := z.den y d e
    refine ⟨v, ?_, (b.chg (x.chg z.cx.tabs fun a q => q ▸ hN) fun _ _ n => n).weaken fun a _ n => n.1⟩
    rcases a with ⟨a, m, ⟨o, es, ep, e, r⟩, e'⟩ | ⟨a, c, e, o, e', r⟩
    · exact .inl ⟨a, m, ⟨o, es, ep, x.keep _ o e (.inl ⟨(z.ok.own _ (.inl rfl)).2.2, fun q => hI.1 (.inl q.symm)⟩), r⟩, e'⟩
    · exact .inr ⟨a, c, e, o, x.keep _ o e' (.inl ⟨(z.ok.own _ (.inr ⟨y, e⟩)).2.2, fun q => hI.1 (.inr ⟨y, q ▸ e⟩)⟩), r⟩
end

/-- a list under way -/
noncomputable def mutD : PyData → Bool
  | .list _ => true
  | .dict kvs => notOpen kvs
  | _ => false
/-- the lists and dicts that stand in a list are different ones -/
noncomputable def Apart (ys : List PyData) (vs : List Value) : Prop :=
  ∀ (i j : Nat) (d e : PyData) (a : Addr), i < j → ys[i]? = some d → ys[j]? = some e → mutD d = true → mutD e = true → vs[i]? = some (.ref a) → vs[j]? = some (.ref a) → False
theorem Apart.nil : Apart [] [] := fun i j d e a _ h => by simp at h
theorem Apart.snoc {ys : List PyData} {vs : List Value} {d : PyData} {v : Value} (x : Apart ys vs) (hl : ys.length = vs.length) (h : mutD d = true → ∀ (i : Nat) (e : PyData) (a : Addr), ys[i]? = some e → mutD e = true → vs[i]? = some (.ref a) → v ≠ .ref a) : Apart (ys ++ [d]) (vs ++ [v]) := by
  intro i j d' e' a hij h1 h2 m1 m2 v1 v2
  have hj : j < (ys ++ [d]).length := (List.getElem?_eq_some_iff.mp h2).1
  rw [List.length_append, List.length_singleton] at hj
  have hi : i < ys.length := by omega
  rw [List.getElem?_append_left hi] at h1
  rw [List.getElem?_append_left (by omega)] at v1
  by_cases q : j < ys.length
  · rw [List.getElem?_append_left q] at h2
    rw [List.getElem?_append_left (by omega)] at v2
    exact x i j d' e' a hij h1 h2 m1 m2 v1 v2
  · have hj' : j = ys.length := by omega
    subst hj'
    rw [List.getElem?_append_right (by omega), Nat.sub_self] at h2
    rw [hl, List.getElem?_append_right (by omega), Nat.sub_self] at v2
    simp at h2 v2
    subst h2
    exact h m2 i d' a h1 m1 v1 v2
theorem Den.mutAt {w : World} {M : Addr → Prop} {h : Heap} {d : PyData} {a : Addr} (x : Den w M h d (.ref a)) (m : mutD d = true) : ¬ M a ∧ (h.get? a).isSome := by
  cases x with
  | tuple _ _ _ _ => simp [mutD] at m
  | list n e _ => exact ⟨n, by rw [e]; rfl⟩
  | dict n e _ _ => exact ⟨n, by rw [e]; rfl⟩
  | opn _ => simp [mutD, notOpen] at m
noncomputable def AccAt (φ : Bool) (w : World) (M : Addr → Prop) (h : Heap) (D : Addr) (ys : List PyData) : Prop := ∃ vs n, h.get? D = some ⟨.type "list", none, .seq vs n, #[]⟩ ∧ DenL w M h ys vs.toList ∧ (φ = true → Apart ys vs.toList)

noncomputable def OffOwn (g : G) (env : Env) (a : Addr) : Prop := ¬ Own env a ∧ g.base.get? a = none ∧ ¬ g.T a

noncomputable def Trs (g : G) (prog : Program) (w : World) (k : Nat) (sc : Scope) (ρ : Rho) (ifs : List Expr) (b : Bool) : Prop :=
  ∀ (A : Around) (env : Env) (N : Addr → Prop) (s : Shared) (Q : Bool → Shared → Prop) (E : Value → Shared → Prop), env.scope = sc → Room A k → St g w N env s.heap ρ →
    (∀ h' tk, Mv g noO s.heap h' → Q b { s with heap := h', toks := tk }) → wpAny (model prog w) A (testsOf ifs env) Q E s

noncomputable def EmitOk (g : G) (prog : Program) (w : World) (k : Nat) (sc : Scope) (φ : Bool) (T : List Str) (m : Env → Value → Sem Unit) (ρ : Rho) (out : List PyData) : Prop :=
  ∀ (A : Around) (env : Env) (N Old : Addr → Prop) (s : Shared) (D : Addr) (ys : List PyData) (Q : Unit → Shared → Prop) (E : Value → Shared → Prop), env.scope = sc → Room A k → St g w N env s.heap ρ →
    (∀ a, Old a → φ = true ∧ (s.heap.get? a).isSome) → N D → OffOwn g env D → AccAt φ w (fun a => N a ∨ Old a) s.heap D ys → ys.length + out.length ≤ sizeLine →
    (∀ h' tk, Mv g (fun a => OwnN env T a ∨ a = D) s.heap h' → St g w N env h' ρ → AccAt φ w (fun a => N a ∨ Old a) h' D (ys ++ out) → Q () { s with heap := h', toks := tk }) → wpAny (model prog w) A (m env (.ref D)) Q E s

noncomputable def LoopOk (g : G) (prog : Program) (w : World) (k : Nat) (sc : Scope) (φ : Bool) (T : List Str) (e : Expr) (depth : Nat) (tgt : Expr) (ρ : Rho) (ds out : List PyData) : Prop :=
  ∀ (A : Around) (env : Env) (N Old : Addr → Prop) (s : Shared) (I D : Addr) (X : Nat → Heap → Prop) (ys : List PyData) (R : Result → Shared → Prop), env.scope = sc → Room A k → St g w N env s.heap ρ →
    (∀ a, Old a → φ = true ∧ (s.heap.get? a).isSome) → N I → N D → I ≠ D → OffOwn g env I → OffOwn g env D → Itr prog w N A tgt I ds X → X 0 s.heap → AccAt φ w (fun a => N a ∨ Old a) s.heap D ys → ys.length + out.length ≤ sizeLine →
    (∀ h' tk, MvX g (fun a => OwnN env T a ∨ a = I ∨ a = D) I s.heap h' → St g w (fun a => N a ∧ a ≠ I) env h' ρ → AccAt φ w (fun a => N a ∨ Old a) h' D (ys ++ out) → R (.ok .next) { s with heap := h', toks := tk }) →
    codeAny (model prog w) A (.compLoop e depth (.ref I) (.ref D) env) R s

section
variable {g : G} {prog : Program} {w : World} {k j : Nat} {sc : Scope} {φ φ₁ φ₂ φ₃ : Bool} {ρ : Rho} {N : Addr → Prop} {A : Around} {T : List Str}

theorem Trs.nil : Trs g prog w k sc ρ [] true := fun A env N s Q E hs hr z hQ => wpAny_tests_nil (hQ s.heap s.toks .refl)
theorem Trs.one {c : Expr} {b : Bool} (x : Tr g prog w k sc ρ c b) : Trs g prog w k sc ρ [c] b := fun A env N s Q E hs hr z hQ => wpAny_tests_one (x A env N s Q E hs hr z hQ)

theorem acc_not {M : Addr → Prop} {h : Heap} {D : Addr} {ys : List PyData} (x : AccAt φ w M h D ys) : ∀ o, h.get? D = some o → ¬ TupObj o ∧ ¬ CodeObj o := fun o e => by
  obtain ⟨vs, n, e', _⟩ := x
  rw [e] at e'; cases e'
  exact ⟨fun t => absurd t.1 (by simp), fun t => absurd t.1 (by simp)⟩

theorem AccAt.mv {M O : Addr → Prop} {h h' : Heap} {D : Addr} {ys : List PyData} (x : AccAt φ w M h D ys) (m : Mv g O h h') (hT : ∀ a, g.T a → M a) (hO : ∀ a, O a → M a) (hD : ¬ g.T D ∧ ¬ O D) : AccAt φ w M h' D ys := by
  obtain ⟨vs, n, e, r, p⟩ := x
  exact ⟨vs, n, m.keep _ _ e (.inl hD), r.chg (m.chg hT hO) fun _ _ n => n, p⟩

theorem emit_of_ev {elt : Expr} {d : PyData} (x : Ev g prog w k sc φ ρ elt d) : EmitOk g prog w k sc φ T (fun env acc => eval elt env >>= fun x => call (.builtin "list.append") [acc, x] >>= fun _ => pure ()) ρ [d] := by
  intro A env N Old s D ys Q E hs hr z hOld hND hD hacc hsz hQ
  refine wpAny_bind (x A env N s _ E hs hr z fun h₁ t₁ v m₁ dv => wpAny_bind ?_)
  have hT : ∀ a, g.T a → (N a ∨ Old a) := fun a t => .inl (z.cx.tabs a t)
  obtain ⟨vs, n, e₀, r₀, p⟩ := hacc
  have e := m₁.keep _ _ e₀ (.inl ⟨hD.2.2, id⟩)
  have r := r₀.chg (m₁.chg hT fun _ q => q.elim) fun _ _ n => n
  have hl := r.length
  simp only [Array.length_toList] at hl
  refine wpAny_list_append_plain ⟨n, e⟩ (fun h₂ hp₂ hsb => wpAny_pure ?_) (by simp only [List.length_singleton] at hsz; omega)
  obtain ⟨n', e'⟩ := hp₂
  have m₂ : Mv g (fun a => OwnN env T a ∨ a = D) h₁ h₂ := .one hsb.extBut (.inr rfl) hD.2.2 (acc_not (w := w) (φ := φ) ⟨vs, n, e, r, p⟩) (by rw [e']; rfl)
  have m₁' : Mv g (fun a => OwnN env T a ∨ a = D) s.heap h₁ := m₁.mono fun _ q => q.elim
  have c₂ : Chg (fun a => N a ∨ Old a) h₁ h₂ := m₂.chg hT fun a o => .inl (o.elim (fun o => (z.ok.own a o.own).1) fun q => q ▸ hND)
  have m₂' : Mv g (fun a => a = D) h₁ h₂ := .one hsb.extBut rfl hD.2.2 (acc_not (w := w) (φ := φ) ⟨vs, n, e, r, p⟩) (by rw [e']; rfl)
  refine hQ h₂ t₁ (m₁'.trans m₂) ((z.gr m₁).mv m₂' fun a q => ⟨q ▸ hND, q ▸ hD.2.1, q ▸ hD.1⟩) ⟨_, n', e', ?_, fun hφ => ?_⟩ <;> rw [Array.toList_push]
  rotate_left
  · refine (p hφ).snoc (by have := r₀.length; exact this) fun md i e a h1 m1 v1 q => ?_
    subst q
    obtain ⟨u, hu, du⟩ := r₀.get h1
    rw [hu] at v1; cases v1
    exact (dv.mutAt md).1 (.inr ⟨hφ, (du.mutAt m1).2⟩)
  refine (r.chg c₂ fun _ _ n => n).append (.cons (Den.chg c₂ (fun _ _ n => n) (dv.weaken fun a _ q => q.elim .inl fun o => .inr ?_)) .nil)
  exact hOld a o

/-- a smaller set of moving places -/
theorem St.sub {N₂ : Addr → Prop} {env : Env} {h : Heap} (z : St g w N₂ env h ρ) (hs : ∀ a, N a → N₂ a) (hm : N sysModules) (ht : ∀ a, g.T a → N a) (ho : ∀ a, Own env a → N a) : St g w N env h ρ where
  cx := ⟨z.cx.glo, fun a n => z.cx.live a (hs a n), hm, ht, z.cx.ti⟩
  ok := ⟨z.ok.kind, z.ok.glob, z.ok.blt, z.ok.loc, z.ok.cell, z.ok.inj, z.ok.has, fun a o => ⟨ho a o, (z.ok.own a o).2⟩⟩
  den := fun y d e => let ⟨v, a, b⟩ := z.den y d e; ⟨v, a, b.weaken fun a _ n => hs a n⟩

theorem codeAny_compStart_any {elt : Expr} {gens : List Comprehension} {scope : Scope} {pos : Pos} {depth : Nat} {it acc : Value} {env : Env} {R : Result → Shared → Prop} {s : Shared} {t iter : Expr} {ifs : List Expr} (hc : gens[depth]? = some ⟨t, iter, ifs, 0⟩)
    (h0 : codeAny (model prog w) A (.compLoop (.ListComp elt gens scope pos) depth it acc env) R s)
    (h : wpAny (model prog w) A (pyIter it) (fun it' s' => codeAny (model prog w) A (.compLoop (.ListComp elt gens scope pos) depth it' acc env) R s')
      (notedBy (model prog w) A env fun x s' => R (.error x) s') s) :
    codeAny (model prog w) A (.compStart (.ListComp elt gens scope pos) depth it acc env) R s := by
  refine codeAny_of_tree ?_
  show wpAny _ _ ((compStart (.ListComp elt gens scope pos) depth it acc env).onRaise (fun x => do noteFrame x env; standAt theWindowsPlace)) _ _ s
  refine wpAny_notedAt ?_
  unfold compStart
  have e1 : (clausesOf (.ListComp elt gens scope pos))[depth]? = some ⟨t, iter, ifs, 0⟩ := hc
  rw [e1]
  show wpAny _ _ (ask >>= _) _ _ s
  refine wpAny_bind (wpAny_askSetting (wpAny_ite ?_))
  split
  · first
      | exact wpAny_bind (wpAny_pure (wpAny_pure (And.intro rfl h0)))
      | exact wpAny_pure (And.intro rfl h0)
  · first
      | exact wpAny_bind (wpAny_rule (wpAny_bind (wpAny_standAt (wpAny_bind (wpAny_mono h (fun it' s' h' => wpAny_pure (And.intro rfl h')) fun _ _ x => x)))))
      | (refine wpAny_bind (wpAny_rule ?_); show wpAny _ _ (standAt iter.pos >>= _) _ _ s; exact wpAny_bind (wpAny_standAt (wpAny_bind (wpAny_mono h (fun it' s' h' => wpAny_pure (And.intro rfl h')) fun _ _ x => x))))

theorem next_of_loop {elt : Expr} {gens : List Comprehension} {scope : Scope} {pos : Pos} {depth : Nat} {t iter : Expr} {ifs : List Expr} {ds out : List PyData} (hc : gens[depth + 1]? = some ⟨t, iter, ifs, 0⟩) (hf : ∀ env x, foldedSetIterable iter env x = pure x)
    (x : Src g prog w k sc ρ t iter ds) (y : LoopOk g prog w k sc φ T (.ListComp elt gens scope pos) (depth + 1) t ρ ds out) :
    EmitOk g prog w k sc φ T (fun env acc => eval iter env >>= fun x => standAt iter.pos >>= fun _ => foldedSetIterable iter env x >>= fun x => holding [x] (pyIter x) >>= fun i => runOwn (.compStart (.ListComp elt gens scope pos) (depth + 1) i acc env) env >>= fun _ => pure ()) ρ out := by
  intro A env N Old s D ys Q E hs hr z hOld hND hD hacc hsz hQ
  refine wpAny_bind (wpAny_mono (x A env N s (fun it s₁ => wpAny (model prog w) A (runOwn (.compStart (.ListComp elt gens scope pos) (depth + 1) it (.ref D) env) env) (fun _ => Q ()) E s₁) E hs hr z fun h₁ t₁ I m₁ hI hI₁ hX => ?_) (fun v s₁ h₁ => ?_) fun _ _ e => e)
  · have hDI : I ≠ D := fun q => by have := z.cx.live D hND; rw [← q, hI] at this; cases this
    have z₁ : St g w (fun a => N a ∨ a = I) env h₁ ρ := z.new m₁ fun a q => ⟨q ▸ hI, q ▸ hI₁⟩
    have hIo : OffOwn g env I := ⟨fun o => (by have := z.cx.live I (z.ok.own I o).1; rw [hI] at this; cases this), z.cx.baseFresh hI, fun t => z.cx.fresh hI (z.cx.tabs I t)⟩
    obtain ⟨X, hit, hX0⟩ := hX (fun a => a = I) rfl fun a q => .inl q
    have hT : ∀ a, g.T a → (N a ∨ Old a) := fun a t => .inl (z.cx.tabs a t)
    have a₁ : AccAt φ w (fun a => (N a ∨ a = I) ∨ Old a) h₁ D ys := by
      obtain ⟨vs, n, e, r, p⟩ := hacc
      refine ⟨vs, n, m₁.keep _ _ e (.inl ⟨hD.2.2, id⟩), DenL.chg (m₁.chg hT fun _ q => q.elim) (fun a ha q => ?_) r, p⟩
      rcases q with (q | q) | q
      · exact .inl q
      · rw [q, hI] at ha; cases ha
      · exact .inr q
    have hr' : Room (A.mark none) k := hr
    refine wpAny_runOwn (codeAny_compStart_any hc ?_ (hit.self 0 _ _ _ hX0 ?_)) <;>
    · refine y A env _ Old { s with heap := h₁, toks := t₁ } I D X ys _ hs hr z₁ (fun a o => ⟨(hOld a o).1, m₁.live a (hOld a o).2⟩) (.inr rfl) (.inl hND) hDI hIo hD hit hX0 a₁ hsz fun h₂ t₂ m₂ z₂ acc₂ => ?_
      refine hQ h₂ t₂ (MvX.fresh (m₁.mono fun _ q => q.elim) m₂ hI fun a q => ?_) (z₂.sub (fun a (n : N a) => ⟨.inl n, fun (q : a = I) => z.cx.fresh hI (q ▸ n)⟩) z.cx.mods z.cx.tabs fun a o => (z.ok.own a o).1) ?_
      · rcases q with q | q | q
        · exact .inl (.inl q)
        · exact .inr (q ▸ hI)
        · exact .inl (.inr q)
      · obtain ⟨vs, n, e, r, p⟩ := acc₂
        exact ⟨vs, n, e, r.weaken fun a _ q => q.elim (fun q => .inl (.inl q)) .inr, p⟩
  · refine wpAny_bind (wpAny_standAt (wpAny_bind (wpAny_of_eq (hf env v) (wpAny_bind (wpAny_holding (wpAny_mono h₁ (fun it s₂ h₂ => ?_) fun _ _ e => e))))))
    exact wpAny_bind (wpAny_mono h₂ (fun _ s₃ h₃ => wpAny_pure h₃) fun _ _ e => e)

theorem loop_of {α : Type} {elt : Expr} {gens : List Comprehension} {scope : Scope} {pos : Pos} {depth : Nat} {t iter : Expr} {ifs : List Expr} {m : Env → Value → Sem Unit} {l : List α} {f : α → PyData} {ρ' : α → Rho} {xs : List Str} {p : α → Bool} {out : α → List PyData}
    (hm : ∀ it acc env, compTurn (.ListComp elt gens scope pos) depth it acc env = (standAt iter.pos >>= fun _ => pyNext it >>= fun r => match r with
      | none => pure (.done .next)
      | some v => letOwnedTupleGo t it v >>= fun _ => assign t env v >>= fun _ => testsOf ifs env >>= fun ok =>
        (if ok = true then m env acc else pure ()) >>= fun _ => again (.compLoop (.ListComp elt gens scope pos) depth it acc env)))
    (hb : ∀ a ∈ l, BindR t (f a) ρ (ρ' a) xs) (hx : ∀ x ∈ xs, storable sc x = true) (hxT : ∀ x ∈ xs, x ∈ T) (hw : ∀ a ∈ l, ∀ x d, ρ.lookup x = some d → (ρ' a).lookup x = some d) (ht : ∀ a ∈ l, Trs g prog w k sc (ρ' a) ifs (p a))
    (he : ∀ a ∈ l, p a = true → EmitOk g prog w k sc φ T m (ρ' a) (out a)) :
    LoopOk g prog w k sc φ T (.ListComp elt gens scope pos) depth t ρ (l.map f) (l.flatMap fun a => if p a then out a else []) := by
  intro A env N Old s I D X ys R hs hr z hOld hNI hND hID hI hD hit hX0 hacc hsz hR
  have hN : ∀ a, (OwnN env T a ∨ a = I ∨ a = D) → N a := fun a q => by
    rcases q with q | q | q
    · exact (z.ok.own a q.own).1
    · exact q ▸ hNI
    · exact q ▸ hND
  refine codeAny_loop rfl (fun n s' => ∃ h tk i, s' = { s with heap := h, toks := tk } ∧ n = l.length + 1 - i ∧ i ≤ l.length ∧ Mv g (fun a => OwnN env T a ∨ a = I ∨ a = D) s.heap h ∧ St g w N env h ρ ∧ X i h ∧
    AccAt φ w (fun a => N a ∨ Old a) h D (ys ++ (l.take i).flatMap fun a => if p a then out a else [])) ?_ (l.length + 1) ⟨s.heap, s.toks, 0, rfl, rfl, Nat.zero_le _, .refl, z, hX0, by simpa using hacc⟩
  rintro n s' ⟨h, tk, i, rfl, rfl, hi, mv, z₁, hX, hac⟩
  show wpAny _ A ((compTurn (.ListComp elt gens scope pos) depth (.ref I) (.ref D) env).onRaise (fun x => do noteFrame x env; theTreesLotGoes x)) _ _ _
  refine wpAny_noted ?_
  rw [hm]
  refine wpAny_bind (wpAny_standAt (wpAny_bind ?_))
  have hT : ∀ a, g.T a → (N a ∨ Old a) := fun a t => .inl (z.cx.tabs a t)
  by_cases hil : i < l.length
  · obtain ⟨a, ha⟩ : ∃ a, l[i]? = some a := ⟨l[i], by simp [hil]⟩
    have ham : a ∈ l := List.mem_of_getElem? ha
    refine wpAny_mono (hit.step i (f a) { s with heap := h, toks := tk } (fun v' s' => ∃ h₂ t₂, s' = { s with heap := h₂, toks := t₂ } ∧ X (i + 1) h₂ ∧ Den w N h₂ (f a) v' ∧ Off I h h₂) _ (by simp [ha]) hX fun h₂ t₂ v hX₂ dv off => ?_) (fun r s₁ hq => ?_) fun _ _ e => e
    · exact ⟨h₂, t₂, rfl, hX₂, dv, off⟩
    · obtain ⟨v, rfl, hq⟩ := hq
      show wpAny _ A (letOwnedTupleGo t (.ref I) v >>= _) _ _ _
      refine wpAny_bind (wpAny_mono hq (fun _ s₂ h₂ => ?_) fun _ _ e => e)
      obtain ⟨h₂, t₂, rfl, hX₂, dv, off⟩ := h₂
      have m₂ : Mv g (fun a => a = I) h h₂ := .one off rfl hI.2.2 (fun o e => by
        obtain ⟨o', e', so, _⟩ := hit.soft i h hX
        rw [e] at e'; cases e'; exact so) (by obtain ⟨o', e', _⟩ := hit.soft _ _ hX₂; rw [e']; rfl)
      have z₂ : St g w N env h₂ ρ := z₁.mv m₂ fun a q => ⟨q ▸ hNI, q ▸ hI.2.1, q ▸ hI.1⟩
      have a₂ := hac.mv m₂ hT (fun a q => .inl (q ▸ hNI)) ⟨hD.2.2, fun q => hID q.symm⟩
      refine wpAny_bind (assign_sound (hb a ham) hs hr.handled hx z₂ dv fun h₃ t₃ m₃ z₃ => ?_)
      have hX₃ : X (i + 1) h₃ := by
        refine hit.frame _ _ _ hX₂ ?_ (m₃.chg z.cx.tabs fun a o => (z.ok.own a o.own).1)
        obtain ⟨o', e', _⟩ := hit.soft _ _ hX₂
        rw [e']; exact m₃.keep _ _ e' (.inl ⟨hI.2.2, fun o => hI.1 o.own⟩)
      have a₃ := a₂.mv m₃ hT (fun a o => .inl (z.ok.own a o.own).1) ⟨hD.2.2, fun o => hD.1 o.own⟩
      refine wpAny_bind (ht a ham A env N _ _ _ hs hr z₃ fun h₄ t₄ m₄ => ?_)
      have z₄ := z₃.gr m₄
      have hX₄ : X (i + 1) h₄ := by
        refine hit.frame _ _ _ hX₃ ?_ (m₄.chg z.cx.tabs fun a o => o.elim)
        obtain ⟨o', e', _⟩ := hit.soft _ _ hX₃
        rw [e']; exact m₄.keep _ _ e' (.inl ⟨hI.2.2, id⟩)
      have a₄ := a₃.mv m₄ hT (fun a o => o.elim) ⟨hD.2.2, id⟩
      have mv₄ : Mv g (fun a => OwnN env T a ∨ a = I ∨ a = D) s.heap h₄ :=
        ((mv.trans (m₂.mono fun a q => .inr (.inl q))).trans (m₃.mono fun a o => .inl (o.mono hxT))).trans (m₄.mono fun _ q => q.elim)
      have tk1 : (l.take (i + 1)).flatMap (fun a => if p a then out a else []) = (l.take i).flatMap (fun a => if p a then out a else []) ++ (if p a then out a else []) := by
        rw [List.take_add_one, ha]; simp
      cases hp : p a with
      | false =>
        simp only [Bool.false_eq_true, if_false]
        refine wpAny_bind (wpAny_pure (wpAny_pure ⟨rfl, l.length + 1 - (i + 1), by omega, h₄, t₄, i + 1, rfl, rfl, by omega, mv₄, z₄.weaken (hw a ham), hX₄, ?_⟩))
        rw [tk1, hp]; simpa using a₄
      | true =>
        simp only [if_true]
        have hlen : ((ys ++ (l.take i).flatMap fun a => if p a then out a else []).length + (out a).length) ≤ sizeLine := by
          have e1 : (l.flatMap fun a => if p a then out a else []) = (l.take (i + 1)).flatMap (fun a => if p a then out a else []) ++ (l.drop (i + 1)).flatMap (fun a => if p a then out a else []) := by
            rw [← List.flatMap_append, List.take_append_drop]
          rw [e1, tk1, hp] at hsz
          simp only [if_true, List.length_append] at hsz ⊢
          omega
        refine wpAny_bind (he a ham hp A env N Old _ D _ _ _ hs hr z₄ (fun b o => ⟨(hOld b o).1, mv₄.live b (hOld b o).2⟩) hND hD a₄ hlen fun h₅ t₅ m₅ z₅ a₅ => ?_)
        have hX₅ : X (i + 1) h₅ := by
          refine hit.frame _ _ _ hX₄ ?_ (m₅.chg z.cx.tabs fun a o => hN a (o.elim .inl fun o => .inr (.inr o)))
          obtain ⟨o', e', _⟩ := hit.soft _ _ hX₄
          rw [e']; exact m₅.keep _ _ e' (.inl ⟨hI.2.2, fun q => q.elim (fun q => hI.1 q.own) hID⟩)
        refine wpAny_pure ⟨rfl, l.length + 1 - (i + 1), by omega, h₅, t₅, i + 1, rfl, rfl, by omega, mv₄.trans (m₅.mono fun a o => o.elim .inl fun o => .inr (.inr o)), z₅.weaken (hw a ham), hX₅, ?_⟩
        rw [tk1, hp]
        simpa using a₅
  · have hil' : i = l.length := by omega
    subst hil'
    refine hit.done _ _ _ (by simpa using hX) fun h₂ t₂ off => ?_
    have m₂ : MvX g (fun a => a = I) I h h₂ := .one off rfl hI.2.2 (fun o e => by
        obtain ⟨o', e', so, _⟩ := hit.soft _ h hX
        rw [e] at e'; cases e'; exact so)
    refine wpAny_pure (hR h₂ t₂ (MvX.after mv (m₂.mono fun a q => .inr (.inl q))) (z₁.mvx m₂ hNI hI) ?_)
    obtain ⟨vs, n, e, r, p⟩ := hac
    refine ⟨vs, n, m₂.keep _ _ e (.inl ⟨hD.2.2, fun q => hID q.symm⟩), ?_, by simpa using p⟩
    simpa using r.chg (m₂.chg hT fun a q => .inl (q ▸ hNI)) fun _ _ n => n
end
end Mine

namespace Mine
open Sem (wp)

/-- the cells of a new frame: those of the closure and new ones -/
structure CellsOk (names : List (Str × NameKind)) (cl : List (Str × Addr)) (h₀ : Heap) (L : Addr) (h : Heap) (cells : List (Str × Addr)) : Prop where
  each : ∀ x c, cells.lookup x = some c → cl.lookup x = some c ∨ (h₀.get? c = none ∧ h.IsCell c none ∧ c ≠ L)
  inj : ∀ x y c, cells.lookup x = some c → cells.lookup y = some c → x = y
  old : ∀ x, (∀ k ∈ names, k.1 = x → k.2 ≠ .cell) → cells.lookup x = cl.lookup x

theorem lookup_mem' {α β : Type} [BEq α] [LawfulBEq α] : ∀ {l : List (α × β)} {x : α} {b : β}, l.lookup x = some b → (x, b) ∈ l
  | [], x, b, h => by simp at h
  | (a, c) :: l, x, b, h => by
    rw [List.lookup_cons] at h
    cases e : x == a with
    | true =>
      rw [e] at h
      cases h
      have := eq_of_beq e
      subst this
      exact .head _
    | false => rw [e] at h; exact .tail _ (lookup_mem' h)

section
variable {g : G} {prog : Program} {w : World} {N : Addr → Prop}

/-- what is laid for a new frame -/
structure Laid (g : G) (scope : Scope) (cl : List (Str × Addr)) (h₀ : Heap) (L : Addr) (h : Heap) (cells : List (Str × Addr)) : Prop where
  mv : Mv g noO h₀ h
  keep : ∀ b o, h₀.get? b = some o → h.get? b = some o
  fresh : h₀.get? L = none
  ns : h.Ns L fun _ => none
  cok : CellsOk scope.names cl h₀ L h cells
  all : ∀ x, (x, NameKind.cell) ∈ scope.names → ∃ c, cells.lookup x = some c

theorem laid_cells {M : Model} {A : Around} {E : Value → Shared → Prop} {scope : Scope} {cl : List (Str × Addr)} {h₀ : Heap} {L : Addr} {s : Shared} {Q : List (Str × Addr) → Shared → Prop}
    (hmv : Mv g noO h₀ s.heap) (hk : ∀ b o, h₀.get? b = some o → s.heap.get? b = some o) (hL : h₀.get? L = none) (hns : s.heap.Ns L fun _ => none) (hcl : ∀ x c, cl.lookup x = some c → ∃ v, h₀.IsCell c v) (hinj : ∀ x y c, cl.lookup x = some c → cl.lookup y = some c → x = y)
    (hQ : ∀ h cells, Laid g scope cl h₀ L h cells → Q cells { s with heap := h }) :
    wpAny M A (forIn scope.names cl fun x r => if (x.2 == NameKind.cell) = true then do let c ← alloc { cls := .type "cell", data := .cell none }; pure (ForInStep.yield ((x.1, c) :: r)) else pure (ForInStep.yield r)) Q E s := by
  refine wpAny_forIn_list _ (fun rest cells s' => ∃ done h, scope.names = done ++ rest ∧ s' = { s with heap := h } ∧ Mv g noO h₀ h ∧ (∀ b o, h₀.get? b = some o → h.get? b = some o) ∧ h.Ns L (fun _ => none) ∧ CellsOk done cl h₀ L h cells ∧ ∀ x, (x, NameKind.cell) ∈ done → ∃ c, cells.lookup x = some c) _ ?_ ?_ _ _
    ⟨[], s.heap, rfl, rfl, hmv, hk, hns, ⟨fun x c e => .inl e, hinj, fun x _ => rfl⟩, fun x m => by cases m⟩
  · rintro ⟨name, kind⟩ rest cells s' ⟨done, h, hd, rfl, m, kk, ns, ck, al⟩
    by_cases hkd : (kind == NameKind.cell) = true
    · simp only [hkd, if_true]
      have hkk : kind = .cell := by simpa using hkd
      subst hkk
      refine wpAny_bind (wpAny_alloc (wpAny_pure ⟨done ++ [(name, .cell)], h.push { cls := .type "cell", data := .cell none }, by simp [hd], rfl, m.trans (.push _), fun b o e => Heap.get?_push_of_some _ (kk b o e), ns.keeps fun b o e => Heap.get?_push_of_some _ e, ⟨fun x c e => ?_, fun x y c e1 e2 => ?_, fun x hx => ?_⟩, fun x mm => ?_⟩))
      · rw [List.lookup_cons] at e
        cases q : x == name with
        | true =>
          rw [q] at e; cases e
          refine .inr ⟨?_, ⟨_, Heap.get?_push_size _ rfl, rfl⟩, ?_⟩
          · cases z : h₀.get? h.objs.size with
            | none => rfl
            | some o => exact absurd (Heap.lt_size (kk _ o z)) (Nat.lt_irrefl _)
          · obtain ⟨o, es, ep, e', _⟩ := ns
            intro q2; rw [← q2] at e'; exact absurd (Heap.lt_size e') (Nat.lt_irrefl _)
        | false =>
          rw [q] at e
          rcases ck.each x c e with q | ⟨q, z, r⟩
          · exact .inl q
          · exact .inr ⟨q, z.keeps fun b o e => Heap.get?_push_of_some _ e, r⟩
      · have live : ∀ x c, cells.lookup x = some c → c ≠ h.objs.size := fun x c e q => by
          subst q
          rcases ck.each x _ e with q | ⟨q, ⟨o, z, _⟩, r⟩
          · obtain ⟨v, o, z, _⟩ := hcl x _ q
            exact absurd (Heap.lt_size (kk _ o z)) (Nat.lt_irrefl _)
          · exact absurd (Heap.lt_size z) (Nat.lt_irrefl _)
        rw [List.lookup_cons] at e1 e2
        cases q1 : x == name with
        | true =>
          cases q2 : y == name with
          | true => rw [eq_of_beq q1, eq_of_beq q2]
          | false =>
            rw [q1] at e1; rw [q2] at e2
            cases e1
            exact absurd rfl (live y _ e2)
        | false =>
          cases q2 : y == name with
          | true =>
            rw [q1] at e1; rw [q2] at e2
            cases e2
            exact absurd rfl (live x _ e1)
          | false => rw [q1] at e1; rw [q2] at e2; exact ck.inj x y c e1 e2
      · have hne : (x == name) = false := by
          rw [beq_eq_false_iff_ne]
          intro q
          exact hx (name, .cell) (by simp) q.symm rfl
        rw [List.lookup_cons, hne]
        exact ck.old x fun k mk => hx k (List.mem_append_left _ mk)
      · rcases List.mem_append.mp mm with mm | mm
        · obtain ⟨c, e⟩ := al x mm
          rw [List.lookup_cons]
          cases x == name with
          | true => exact ⟨_, rfl⟩
          | false => exact ⟨c, e⟩
        · simp at mm; subst mm; simp
    · have hkk : (kind == NameKind.cell) = false := by simpa using hkd
      simp only [hkk, Bool.false_eq_true, if_false]
      refine wpAny_pure ⟨done ++ [(name, kind)], h, by simp [hd], rfl, m, kk, ns, ⟨ck.each, ck.inj, fun x hx => ck.old x fun k mk => hx k (List.mem_append_left _ mk)⟩, fun x mm => ?_⟩
      rcases List.mem_append.mp mm with mm | mm
      · exact al x mm
      · simp at mm; obtain ⟨_, rfl⟩ := mm; simp at hkk
  · rintro cells s' ⟨done, h, hd, rfl, m, kk, ns, ck, al⟩
    rw [List.append_nil] at hd; subst hd
    exact hQ h cells ⟨m, kk, hL, ns, ck, al⟩

/-- a new frame -/
theorem newEnv_sound {M : Model} {A : Around} {E : Value → Shared → Prop} {scope : Scope} {globals : Addr} {cl : List (Str × Addr)} {binds : List (Str × Value)} {qual : Str} {func : Option Addr} {code : Value} {around : Option Env} {builtins : Addr} {Q : Env → Shared → Prop} {s : Shared}
    (hcl : ∀ x c, cl.lookup x = some c → ∃ v, s.heap.IsCell c v) (hinj : ∀ x y c, cl.lookup x = some c → cl.lookup y = some c → x = y)
    (hQ : ∀ h cells, Laid g scope cl s.heap s.heap.objs.size h cells → wpAny M A (forIn binds PUnit.unit fun x _ => do storeName (newEnv scope s.heap.objs.size globals cells qual func code around builtins) x.1 x.2; pure (ForInStep.yield PUnit.unit)) (fun _ => Q (newEnv scope s.heap.objs.size globals cells qual func code around builtins)) E { s with heap := h }) :
    wpAny M A (newFunctionEnv scope globals cl binds qual func code around builtins) Q E s := by
  cases around with
  | none =>
    simp only [newFunctionEnv, Option.isSome_none, Bool.false_eq_true, if_false]
    refine wpAny_bind (wpAny_alloc (wpAny_bind (laid_cells (g := g) (s := { s with heap := s.heap.push { cls := .type "frame", data := .dict #[] } }) (.push _) (fun b o e => Heap.get?_push_of_some _ e) (Cx.nextFresh _) (Heap.Ns.new ..) hcl hinj fun h cells hl => ?_)))
    exact wpAny_bind (wpAny_mono (hQ h cells hl) (fun _ _ q => wpAny_pure q) fun _ _ e => e)
  | some outer =>
    simp only [newFunctionEnv, Option.isSome_some, if_true]
    refine wpAny_bind (wpAny_alloc (wpAny_bind (laid_cells (g := g) (s := { s with heap := s.heap.push { cls := .type "dict", data := .dict #[] } }) (.push _) (fun b o e => Heap.get?_push_of_some _ e) (Cx.nextFresh _) (Heap.Ns.new ..) hcl hinj fun h cells hl => ?_)))
    exact wpAny_bind (wpAny_mono (hQ h cells hl) (fun _ _ q => wpAny_pure q) fun _ _ e => e)

/-- the state of a new frame -/
theorem Laid.st {scope : Scope} {cl : List (Str × Addr)} {h₀ h : Heap} {L : Addr} {cells : List (Str × Addr)} {ρ₀ : Rho} {env : Env} (hl : Laid g scope cl h₀ L h cells) (c : Cx g N h₀)
    (hcl : ∀ x c, cl.lookup x = some c → N c ∧ g.base.get? c = none ∧ ¬ g.T c) (hcl' : ∀ x c, cl.lookup x = some c → ∃ v, h₀.IsCell c v)
    (hk : env.scope.kind = .function) (hg : env.globals = mainGlobals) (hb : env.builtins = builtinsNs) (hloc : env.locals = L) (hce : env.cells = cells)
    (hsc : ∀ x, env.kindOf x = some .cell ∨ env.kindOf x = some .free → (x, NameKind.cell) ∈ scope.names ∨ ((∀ k ∈ scope.names, k.1 = x → k.2 ≠ .cell) ∧ ∃ c, cl.lookup x = some c))
    (hρ : ∀ x d, ρ₀.lookup x = some d → (env.kindOf x = some .cell ∨ env.kindOf x = some .free) ∧ (∀ k ∈ scope.names, k.1 = x → k.2 ≠ .cell) ∧ ∃ c v, cl.lookup x = some c ∧ h₀.IsCell c (some v) ∧ Den w N h₀ d v) :
    St g w (fun a => N a ∨ (h₀.get? a = none ∧ Own env a)) env h ρ₀ := by
  have c1 : Cx g N h := c.mv hl.mv fun _ q => q.elim
  have hLn : (h.get? L).isSome := ns_some hl.ns
  have hown : ∀ a, Own env a → (h.get? a).isSome ∧ (N a ∨ (h₀.get? a = none)) ∧ g.base.get? a = none ∧ ¬ g.T a := fun a o => by
    rcases o with rfl | ⟨x, e⟩
    · rw [hloc]; exact ⟨hLn, .inr hl.fresh, c.baseFresh hl.fresh, fun t => c.fresh hl.fresh (c.tabs _ t)⟩
    · rw [hce] at e
      rcases hl.cok.each x a e with q | ⟨q, z, r⟩
      · obtain ⟨v, o, e', _⟩ := hcl' x a q
        exact ⟨by rw [hl.keep _ _ e']; rfl, .inl (hcl x a q).1, (hcl x a q).2⟩
      · exact ⟨cell_some z, .inr q, c.baseFresh q, fun t => c.fresh q (c.tabs _ t)⟩
  refine ⟨c1.more _ fun a o => (hown a o.2).1, ⟨hk, hg, hb, ⟨_, hloc ▸ hl.ns⟩, fun x a e => ?_, fun x y a e1 e2 => ?_, fun x hx => ?_, fun a o => ⟨?_, (hown a o).2.2⟩⟩, fun x d e => ?_⟩
  · rw [hce] at e
    rcases hl.cok.each x a e with q | ⟨q, z, r⟩
    · obtain ⟨v, z⟩ := hcl' x a q
      exact ⟨v, z.keeps hl.keep⟩
    · exact ⟨_, z⟩
  · rw [hce] at e1 e2; exact hl.cok.inj x y a e1 e2
  · rw [hce]
    rcases hsc x hx with q | ⟨q, a, e⟩
    · exact hl.all x q
    · exact ⟨a, (hl.cok.old x q).trans e⟩
  · rcases (hown a o).2.1 with q | q
    · exact .inl q
    · exact .inr ⟨q, o⟩
  · obtain ⟨hkx, hnx, a, v, e1, e2, dv⟩ := hρ x d e
    refine ⟨v, .inr ⟨hkx, a, ?_, e2.keeps hl.keep⟩, dv.chg (.of hl.keep) fun b hb q => q.elim id fun q => ?_⟩
    · rw [hce, hl.cok.old x hnx]; exact e1
    · rw [q.1] at hb; cases hb
end
end Mine

namespace Mine
open Sem (wp)

noncomputable def relabelS (scope sc : Scope) : Scope :=
  { scope with names := scope.names.map fun (n, k) => if (k == .free && sc.kind == .function && sc.names.lookup n == some .cell) then (n, .cell) else (n, k) }
theorem relabelS_eq {scope : Scope} {env : Env} {sc : Scope} (h : env.scope = sc) : relabel scope env = relabelS scope sc := by subst h; rfl

/-- the scope of a comprehension is in order, seen from around -/
noncomputable def compOk (scope sc : Scope) : Bool :=
  scope.kind == .function && scope.names.all fun x => scope.names.lookup x.1 == some x.2 && (x.2 != .free || sc.names.lookup x.1 == some .cell || sc.names.lookup x.1 == some .free) && (x.2 == .free || x.2 == .cell || x.2 == .local || x.2 == .globalImplicit)

noncomputable def inner (scope : Scope) (ρ : Rho) : Rho := ρ.filter fun p => scope.names.lookup p.1 == some .free

theorem lookup_filter {p : Str → Bool} : ∀ {ρ : Rho} {x : Str} {d : PyData}, (ρ.filter fun q => p q.1).lookup x = some d → ρ.lookup x = some d ∧ p x = true
  | [], x, d, h => by simp at h
  | (y, e) :: ρ, x, d, h => by
    by_cases q : p y = true
    · rw [List.filter_cons, if_pos q, List.lookup_cons] at h
      rw [List.lookup_cons]
      cases z : x == y with
      | true => rw [z] at h; exact ⟨h, eq_of_beq z ▸ q⟩
      | false => rw [z] at h; exact lookup_filter h
    · rw [List.filter_cons, if_neg q] at h
      have := lookup_filter h
      rw [List.lookup_cons]
      cases z : x == y with
      | true => exact absurd (eq_of_beq z ▸ this.2) q
      | false => exact this
theorem inner_look {scope : Scope} {ρ : Rho} {x : Str} {d : PyData} (h : (inner scope ρ).lookup x = some d) : ρ.lookup x = some d ∧ scope.names.lookup x = some .free := by
  have := lookup_filter (p := fun x => scope.names.lookup x == some .free) h
  simpa using this

theorem closure_ok {env : Env} : ∀ (names : List (Str × NameKind)) (cs : List (Str × Addr)), (∀ x ∈ names, x.2 = .free → ∃ c, env.cells.lookup x.1 = some c) →
    ∃ cl, (forIn names cs fun x r => if (x.2 == NameKind.free) = true then (do let c ← cellOf env x.1; pure (ForInStep.yield ((x.1, c) :: r))) else pure (ForInStep.yield r) : Sem _) = pure cl ∧
      (∀ x c, cl.lookup x = some c → cs.lookup x = some c ∨ ((x, NameKind.free) ∈ names ∧ env.cells.lookup x = some c)) ∧ (∀ x, ((x, NameKind.free) ∈ names ∨ (cs.lookup x).isSome) → (cl.lookup x).isSome)
  | [], cs, h => ⟨cs, rfl, fun x c e => .inl e, fun x q => q.elim (fun q => by cases q) id⟩
  | (n, kd) :: names, cs, h => by
    rw [List.forIn_cons]
    by_cases hk : kd = .free
    · subst hk
      obtain ⟨c, hc⟩ := h (n, .free) (.head _) rfl
      obtain ⟨cl, e, p, q⟩ := closure_ok names ((n, c) :: cs) fun x m => h x (.tail _ m)
      refine ⟨cl, ?_, fun x c' hx => ?_, fun x hx => q x ?_⟩
      · have e1 : cellOf env n = pure c := by unfold cellOf; rw [hc]
        simp only [beq_self_eq_true, if_true, e1, pure_bind]
        exact e
      · rcases p x c' hx with z | ⟨z, z'⟩
        · rw [List.lookup_cons] at z
          cases b : x == n with
          | true => rw [b] at z; cases z; exact .inr ⟨eq_of_beq b ▸ .head _, eq_of_beq b ▸ hc⟩
          | false => rw [b] at z; exact .inl z
        · exact .inr ⟨.tail _ z, z'⟩
      · rcases hx with hx | hx
        · rcases List.mem_cons.mp hx with z | z
          · cases z; right; simp
          · exact .inl z
        · right
          rw [List.lookup_cons]
          cases x == n <;> simp [hx]
    · have hk' : (kd == NameKind.free) = false := by simpa using hk
      obtain ⟨cl, e, p, q⟩ := closure_ok names cs fun x m => h x (.tail _ m)
      refine ⟨cl, ?_, fun x c' hx => ?_, fun x hx => q x ?_⟩
      · simp only [hk', Bool.false_eq_true, if_false, pure_bind]
        exact e
      · rcases p x c' hx with z | ⟨z, z'⟩
        · exact .inl z
        · exact .inr ⟨.tail _ z, z'⟩
      · rcases hx with hx | hx
        · rcases List.mem_cons.mp hx with z | z
          · cases z; exact absurd rfl hk
          · exact .inl z
        · exact .inr hx

theorem closureFor_ok {scope : Scope} {env : Env} (h : ∀ x ∈ scope.names, x.2 = .free → ∃ c, env.cells.lookup x.1 = some c) :
    ∃ cl, closureFor scope env = pure cl ∧ (∀ x c, cl.lookup x = some c → (x, NameKind.free) ∈ scope.names ∧ env.cells.lookup x = some c) ∧ (∀ x, (x, NameKind.free) ∈ scope.names → (cl.lookup x).isSome) := by
  obtain ⟨cl, e, p, q⟩ := closure_ok scope.names [] h
  refine ⟨cl, ?_, fun x c hx => ?_, fun x hx => q x (.inl hx)⟩
  · unfold closureFor
    simp only [bind_pure]
    exact e
  · rcases p x c hx with z | z
    · simp at z
    · exact z

theorem lookup_relabel {sc : Scope} : ∀ {names : List (Str × NameKind)} {x : Str},
    (names.map fun (n, k) => if (k == NameKind.free && sc.kind == .function && sc.names.lookup n == some .cell) then (n, NameKind.cell) else (n, k)).lookup x =
      (names.lookup x).map fun k => if (k == NameKind.free && sc.kind == .function && sc.names.lookup x == some .cell) then NameKind.cell else k
  | [], x => rfl
  | (n, k) :: names, x => by
    rw [List.map_cons]
    by_cases q : (k == NameKind.free && sc.kind == .function && sc.names.lookup n == some .cell) = true
    · show List.lookup x ((if _ then _ else _) :: _) = _
      rw [if_pos q, List.lookup_cons, List.lookup_cons]
      cases b : x == n with
      | true =>
        have := eq_of_beq b; subst this
        show some _ = some (if _ then _ else _)
        rw [if_pos q]
      | false => exact lookup_relabel
    · show List.lookup x ((if _ then _ else _) :: _) = _
      rw [if_neg q, List.lookup_cons, List.lookup_cons]
      cases b : x == n with
      | true =>
        have := eq_of_beq b; subst this
        show some k = some (if _ then _ else _)
        rw [if_neg q]
      | false => exact lookup_relabel

section
variable {g : G} {prog : Program} {w : World} {k j : Nat} {sc : Scope} {φ : Bool} {ρ : Rho}

theorem compOk_at {scope sc : Scope} (h : compOk scope sc = true) : scope.kind = .function ∧ ∀ x kd, (x, kd) ∈ scope.names → scope.names.lookup x = some kd ∧ (kd = .free → sc.names.lookup x = some .cell ∨ sc.names.lookup x = some .free) ∧ (kd = .free ∨ kd = .cell ∨ kd = .local ∨ kd = .globalImplicit) := by
  simp only [compOk, Bool.and_eq_true, List.all_eq_true, beq_iff_eq, Bool.or_eq_true, bne_iff_ne] at h
  refine ⟨h.1, fun x kd m => ?_⟩
  obtain ⟨⟨h1, h2⟩, h3⟩ := h.2 (x, kd) m
  simp only at h1 h2 h3
  refine ⟨h1, fun q => ?_, ?_⟩
  · subst q; simpa using h2
  · rcases h3 with ((q | q) | q) | q <;> simp [q]

theorem comp_run {A : Around} {E : Value → Shared → Prop} {elt t iter : Expr} {ifs : List Expr} {rest : List Comprehension} {scope : Scope} {pos : Pos} {ds out : List PyData} {T : List Str} {N : Addr → Prop} {env : Env} {s : Shared} {RR : Value → Addr → Result → Shared → Prop} {cl : List (Str × Addr)}
    (hck : compOk scope sc = true) (hT : T.all (fun x => scope.names.lookup x == some .local || scope.names.lookup x == some .cell) = true)
    (hcl1 : ∀ x c, cl.lookup x = some c → (x, NameKind.free) ∈ scope.names ∧ env.cells.lookup x = some c) (hcl2 : ∀ x, (x, NameKind.free) ∈ scope.names → (cl.lookup x).isSome)
    (x : Src g prog w k sc ρ t iter ds) (y : LoopOk g prog w k (relabelS scope sc) φ T (.ListComp elt (⟨t, iter, ifs, 0⟩ :: rest) scope pos) 0 t (inner scope ρ) ds out) (hsz : out.length ≤ sizeLine)
    (hs : env.scope = sc) (hr : Room A k) (z : St g w N env s.heap ρ)
    (hRR : ∀ D C h' tk, Mv g noO s.heap h' → s.heap.get? D = none → s.heap.get? C = none → C ≠ D → (∃ m, h'.Ns C m) → AccAt φ w (fun a => (N a ∨ a = C) ∨ (φ = true ∧ (s.heap.get? a).isSome)) h' D out → RR (.ref D) C (.ok .next) { s with heap := h', toks := tk }) :
    wpAny (model prog w) A (eval iter env) (fun xv s₁ => wpAny (model prog w) A (pyIter xv) (fun it s₂ => wpAny (model prog w) A (newList []) (fun acc s₃ => wpAny (model prog w) A (newFunctionEnv scope env.globals cl [] env.qual none .none (some env)) (fun cenv s₄ =>
      codeAny (model prog w) A (.compStart (.ListComp elt (⟨t, iter, ifs, 0⟩ :: rest) scope pos) 0 it acc { cenv with scope := relabel scope env }) (RR acc cenv.locals) s₄) E s₃) E s₂) E s₁) E s := by
  obtain ⟨hkind, hnm⟩ := compOk_at hck
  refine x A env N s _ E hs hr z fun h₁ t₁ I m₁ hI hI₁ hX => ?_
  refine wpAny_newObj_type ?_
  generalize hh₂ : h₁.push { cls := .type "list", dict := none, data := .seq ([] : List Value).toArray } = h₂
  have k₁₂ : ∀ b o, h₁.get? b = some o → h₂.get? b = some o := fun b o e => by rw [← hh₂]; exact Heap.get?_push_of_some _ e
  have hDo : h₂.get? h₁.objs.size = some ⟨.type "list", none, .seq #[] 0, #[]⟩ := by rw [← hh₂]; exact Heap.get?_push_size _ rfl
  have hDf : h₁.get? h₁.objs.size = none := Cx.nextFresh _
  generalize hD : h₁.objs.size = D at hDo hDf
  have m₂ : Mv g noO s.heap h₂ := m₁.trans (.ofKeep k₁₂)
  have hDs : s.heap.get? D = none := by
    cases e : s.heap.get? D with
    | none => rfl
    | some o => have := m₁.live D (by rw [e]; rfl); rw [hDf] at this; cases this
  have hID : I ≠ D := fun q => by rw [q, hDf] at hI₁; cases hI₁
  have z₂ := z.gr m₂
  have hcell : ∀ x c, cl.lookup x = some c → ∃ v, h₂.IsCell c v := fun x c e => z₂.ok.cell x c (hcl1 x c e).2
  refine newEnv_sound (g := g) hcell (fun x y c e1 e2 => z.ok.inj x y c (hcl1 x c e1).2 (hcl1 y c e2).2) fun h₃ cells hl => ?_
  rw [List.forIn_nil]
  refine wpAny_pure ?_
  generalize henv : ({ newEnv scope h₂.objs.size env.globals cells env.qual none .none (some env) builtinsNs with scope := relabel scope env } : Env) = env'
  have e1 : env'.scope = relabelS scope sc := by rw [← henv]; exact relabelS_eq hs
  have e2 : env'.locals = h₂.objs.size := by rw [← henv]; rfl
  have e3 : env'.globals = mainGlobals := by rw [← henv]; exact z.ok.glob
  have e4 : env'.builtins = builtinsNs := by rw [← henv]; exact z.ok.blt
  have e5 : env'.cells = cells := by rw [← henv]; rfl
  have cx₂ : Cx g (fun a => N a ∨ (a = I ∨ a = D)) h₂ := z₂.cx.more (fun a => a = I ∨ a = D) fun a q => by
    rcases q with q | q
    · rw [q]; cases e : h₁.get? I with
      | none => rw [e] at hI₁; cases hI₁
      | some o => rw [k₁₂ _ _ e]; rfl
    · rw [q, hDo]; rfl
  have hfr : ∀ x, scope.names.lookup x = some .free → ∀ k ∈ scope.names, k.1 = x → k.2 ≠ .cell := fun x e k mk ek q => by
    have := (hnm k.1 k.2 mk).1
    rw [ek, e, q] at this; cases this
  have hko : ∀ x, env'.kindOf x = (scope.names.lookup x).map fun k => if (k == NameKind.free && sc.kind == .function && sc.names.lookup x == some .cell) then NameKind.cell else k := fun x => by
    unfold Env.kindOf; rw [e1]; exact lookup_relabel
  have z₃ : St g w (fun a => (N a ∨ (a = I ∨ a = D)) ∨ (h₂.get? a = none ∧ Own env' a)) env' h₃ (inner scope ρ) := by
    refine hl.st cx₂ (fun x c e => ?_) hcell (by rw [e1]; exact hkind) e3 e4 e2 e5 (fun x q => ?_) fun x d e => ?_
    · have := z.ok.own c (.inr ⟨x, (hcl1 x c e).2⟩)
      exact ⟨.inl this.1, this.2⟩
    · rw [hko] at q
      cases e : scope.names.lookup x with
      | none => rw [e] at q; simp at q
      | some kd =>
        have mm := lookup_mem' e
        rcases (hnm x kd mm).2.2 with r | r | r | r
        · subst r
          obtain ⟨c, hc⟩ := Option.isSome_iff_exists.mp (hcl2 x mm)
          exact .inr ⟨hfr x e, c, hc⟩
        · subst r; exact .inl mm
        · subst r; rw [e] at q; simp at q
        · subst r; rw [e] at q; simp at q
    · obtain ⟨q1, q2⟩ := inner_look e
      have mm := lookup_mem' q2
      obtain ⟨c, hc⟩ := Option.isSome_iff_exists.mp (hcl2 x mm)
      obtain ⟨v, hv, dv⟩ := z.den x d q1
      refine ⟨?_, hfr x q2, c, v, hc, ?_, ?_⟩
      · rw [hko, q2]
        by_cases b : (NameKind.free == NameKind.free && sc.kind == .function && sc.names.lookup x == some .cell) = true
        · left; simp only [Option.map_some, b, if_true]
        · right; simp only [Option.map_some, b, Bool.false_eq_true, if_false]
      · have hv₂ := hv.mv z.ok m₂ fun _ _ q => q
        rcases hv₂ with ⟨a, _⟩ | ⟨a, c', ec, ic⟩
        · exfalso
          unfold Env.kindOf at a; rw [hs] at a
          rcases (hnm x .free mm).2.1 rfl with r | r <;> rw [r] at a <;> cases a
        · rw [(hcl1 x c hc).2] at ec; cases ec; exact ic
      · refine (dv.weaken (N' := fun a => N a ∨ (a = I ∨ a = D)) fun a ha q => ?_).chg (m₂.chg (fun a t => .inl (z.cx.tabs a t)) fun _ q => q.elim) fun _ _ n => n
        rcases q with q | q | q
        · exact q
        · rw [q, hI] at ha; cases ha
        · rw [q, hDs] at ha; cases ha
  have hown : ∀ a, s.heap.get? a = none → h₂.get? a ≠ none → OffOwn g env' a := fun a ha hb => by
    refine ⟨fun o => ?_, z.cx.baseFresh ha, fun t => z.cx.fresh ha (z.cx.tabs a t)⟩
    rcases o with o | ⟨x, o⟩
    · rw [e2] at o; rw [o] at hb; exact hb (Cx.nextFresh _)
    · rw [e5] at o
      rcases hl.cok.each x a o with q | ⟨q, _⟩
      · obtain ⟨v, q⟩ := z.ok.cell x a (hcl1 x a q).2
        have := cell_some q; rw [ha] at this; cases this
      · exact hb q
  have hI₂ : h₂.get? I ≠ none := fun q => by
    cases e : h₁.get? I with
    | none => rw [e] at hI₁; cases hI₁
    | some o => rw [k₁₂ _ _ e] at q; cases q
  obtain ⟨X, hit, hX0⟩ := hX (fun a => (a = I ∨ a = D) ∨ (h₂.get? a = none ∧ Own env' a)) (.inl (.inl rfl)) fun a q => by
    rcases q with (q | q) | q
    · exact .inl q
    · exact .inr (q ▸ hDf)
    · right
      cases e : h₁.get? a with
      | none => rfl
      | some o => have := q.1; rw [k₁₂ _ _ e] at this; cases this
  have hNe : (fun a => N a ∨ ((a = I ∨ a = D) ∨ (h₂.get? a = none ∧ Own env' a))) = (fun a => (N a ∨ (a = I ∨ a = D)) ∨ (h₂.get? a = none ∧ Own env' a)) := by
    funext a; simp only [or_assoc]
  rw [hNe] at hit
  have hX3 : X 0 h₃ := by
    refine hit.frame _ _ _ hX0 ?_ (.of fun b o e => hl.keep _ _ (k₁₂ _ _ e))
    obtain ⟨o, e, _⟩ := hit.soft _ _ hX0
    rw [e]; exact hl.keep _ _ (k₁₂ _ _ e)
  have a₃ : AccAt φ w (fun a => ((N a ∨ (a = I ∨ a = D)) ∨ (h₂.get? a = none ∧ Own env' a)) ∨ (φ = true ∧ (s.heap.get? a).isSome)) h₃ D [] := ⟨#[], 0, hl.keep _ _ hDo, .nil, fun _ => Apart.nil⟩
  refine codeAny_compStart_any rfl ?_ (hit.self 0 _ _ _ hX3 ?_) <;>
  · refine y A env' _ (fun a => φ = true ∧ (s.heap.get? a).isSome) _ I D X [] _ e1 hr z₃ (fun a q => ⟨q.1, hl.mv.live a (m₂.live a q.2)⟩) (.inl (.inr (.inl rfl))) (.inl (.inr (.inr rfl))) hID (hown I hI hI₂) (hown D hDs (by rw [hDo]; simp)) hit hX3 a₃ (by simpa using hsz) fun h₄ t₄ m₄ z₄ a₄ => ?_
    refine hRR D h₂.objs.size h₄ t₄ (MvX.fresh (m₂.trans hl.mv) m₄ hI fun a q => .inr ?_) hDs ?_ ?_ (by rw [← e2]; exact z₄.ok.loc) ?_
    · rcases q with q | q | q
      · rcases q with q | ⟨x, mx, q1, q2⟩
        · rw [e2] at q; rw [q]
          cases e : s.heap.get? h₂.objs.size with
          | none => rfl
          | some o => have := m₂.live h₂.objs.size (by rw [e]; rfl); rw [Cx.nextFresh] at this; cases this
        · rw [e5] at q2
          rcases hl.cok.each x a q2 with r | ⟨r, _⟩
          · exfalso
            have t1 := (hcl1 x a r).1
            have t2 := (hnm x .free t1).1
            have t3 := List.all_eq_true.mp hT x mx
            rw [t2] at t3; simp at t3
          · cases e : s.heap.get? a with
            | none => rfl
            | some o => have := m₂.live a (by rw [e]; rfl); rw [r] at this; cases this
      · exact q ▸ hI
      · exact q ▸ hDs
    · cases e : s.heap.get? h₂.objs.size with
      | none => rfl
      | some o => have := m₂.live h₂.objs.size (by rw [e]; rfl); rw [Cx.nextFresh] at this; cases this
    · intro q; rw [← q, Cx.nextFresh] at hDo; cases hDo
    · obtain ⟨vs, n, e, r, p⟩ := a₄
      exact ⟨vs, n, e, r.weaken fun a _ q => q.elim (fun q => .inl (q.elim (fun q => .inl (.inl q)) fun q => .inr ⟨q ▸ Cx.nextFresh _, .inl (q.trans e2.symm)⟩)) .inr, p⟩

/-- a list comprehension as a value -/
theorem Ev.comp {elt t iter : Expr} {ifs : List Expr} {rest : List Comprehension} {scope : Scope} {pos : Pos} {ds out : List PyData} {T : List Str}
    (x : Src g prog w k sc ρ t iter ds) (y : LoopOk g prog w k (relabelS scope sc) φ T (.ListComp elt (⟨t, iter, ifs, 0⟩ :: rest) scope pos) 0 t (inner scope ρ) ds out)
    (hsz : out.length ≤ sizeLine) (hck : compOk scope sc = true) (hT : T.all (fun x => scope.names.lookup x == some .local || scope.names.lookup x == some .cell) = true) (hf : ∀ env x, foldedSetIterable iter env x = pure x) :
    Ev g prog w k sc φ ρ (.ListComp elt (⟨t, iter, ifs, 0⟩ :: rest) scope pos) (.list out) := by
  intro A env N s Q E hs hr z hQ
  obtain ⟨hkind, hnm⟩ := compOk_at hck
  obtain ⟨cl, hclos, hcl1, hcl2⟩ := closureFor_ok (scope := scope) (env := env) fun x m q => z.ok.has x.1 (by
    unfold Env.kindOf; rw [hs]
    exact (hnm x.1 x.2 m).2.1 q)
  rw [eval_ListComp]
  refine wpAny_comprehension_free (use := none) rfl (hf env) hclos hkind (fun x m q => (hnm x.1 x.2 m).1.trans (by rw [q])) ?_
  refine comp_run hck hT hcl1 hcl2 x y hsz hs hr z fun D C h' tk m hD hC hCD hn ha => ?_
  obtain ⟨m', hn⟩ := hn
  refine ⟨m', hn, fun h₂ hs₂ => ?_⟩
  have hTC : ¬ g.T C := fun t => z.cx.fresh hC (z.cx.tabs C t)
  have m₂ : MvX g (fun a => a = C) C h' h₂ := .one hs₂.extBut rfl hTC (ns_not hn)
  refine hQ h₂ tk _ (MvX.fresh m m₂ hC fun a q => .inr (q ▸ hC)) ?_
  obtain ⟨vs, n, e, r, _⟩ := ha
  refine .list (fun q => ?_) (hs₂.extBut _ _ (Ne.symm hCD) e) ((r.chg (m₂.chg (fun a t => .inl (.inl (z.cx.tabs a t))) fun a q => .inl (.inr q)) fun _ _ n => n).weaken fun a _ q => q.elim (fun q => .inl (.inl q)) .inr)
  rcases q with q | q
  · exact z.cx.fresh hD q
  · have := q.2; rw [hD] at this; cases this
end
end Mine

namespace Mine
open Sem (wp)

/-- a global name that is a builtin -/
structure BName (g : G) (sc : Scope) (x : Str) (v : Value) : Prop where
  miss : g.mg x = none
  hit : g.mb x = some v
  kind : sc.names.lookup x = some .globalImplicit

section
variable {g : G} {prog : Program} {w : World} {k j : Nat} {sc : Scope} {φ φ₁ φ₂ : Bool} {ρ : Rho} {N : Addr → Prop} {env : Env}

theorem BName.use {x : Str} {v : Value} (b : BName g sc x v) {A : Around} {s : Shared} {Q E : Value → Shared → Prop} {np : Pos} (hs : env.scope = sc) (z : St g w N env s.heap ρ) (h : Q v s) (hd : (x == ("__debug__" : Str)) = false := by decide) : wpAny (model prog w) A (eval (.Name x np) env) Q E s := by
  refine Calls.Name_function_global z.ok.kind (by unfold Env.kindOf; rw [hs]; exact b.kind) (Calls.loadGlobal_builtin (mg := g.mg) (mb := g.mb) ?_ b.miss ?_ b.hit h) hd
  · rw [z.ok.glob]; exact z.cx.nsG
  · rw [z.ok.blt]; exact z.cx.nsB

theorem call_open {x : Str} {np pos : Pos} {args : List Expr} {A : Around} {s : Shared} {Q E : Value → Shared → Prop} {M : Model}
    (h : wpAny M A (eval (.Name x np) env) (fun f s₁ => wpAny M A (callWith pos f [] (backTo pos (starEach args env)) []) Q E s₁) E s) : wpAny M A (eval (.Call (.Name x np) args [] pos) env) Q E s := by
  show wpAny M A (do callWith pos (← eval (.Name x np) env) [] (backTo pos (starEach args env)) (backToKw pos (keywordEach [] env))) Q E s
  exact wpAny_bind h

/-! sources -/
theorem Src.list {tgt e : Expr} {ds : List PyData} (x : Ev g prog w k sc φ ρ e (.list ds)) : Src g prog w k sc ρ tgt e ds := by
  intro A env N s Q E hs hr z hQ
  refine x A env N s _ E hs hr z fun h₁ t₁ v m₁ d₁ => ?_
  obtain ⟨a, rfl⟩ := d₁.listRef
  have d₁' : Den w N h₁ (.list ds) (.ref a) := d₁.weaken fun a _ n => .inl n
  obtain ⟨na, vs, n, ea, ra⟩ := d₁'.isList
  refine wpAny_pyIter_list (isList_of ea) ?_
  have m₂ : Mv g noO h₁ (h₁.push { cls := .type "list_iterator", data := .fields #[.ref a, .int 0 0] }) := .push _
  have hf : s.heap.get? h₁.objs.size = none := by
    cases e : s.heap.get? h₁.objs.size with
    | none => rfl
    | some o => have := m₁.live h₁.objs.size (by rw [e]; rfl); rw [Cx.nextFresh] at this; cases this
  refine hQ _ t₁ h₁.objs.size (m₁.trans m₂) hf (by rw [Heap.get?_push_size _ rfl]; rfl) fun O hI hO => ?_
  refine ⟨_, Itr.list hr.handled (I := h₁.objs.size) (a := a) (.inr hI), ⟨_, Heap.get?_push_size _ rfl, rfl, rfl⟩, ?_⟩
  refine (d₁'.weaken fun b hb q => q.elim id fun q => ?_).keeps fun b o e => Heap.get?_push_of_some _ e
  cases e : h₁.get? b with
  | none => rw [e] at hb; cases hb
  | some o =>
    rcases hO b q with q | q
    · rw [q, Cx.nextFresh] at e; cases e
    · rw [Heap.get?_push_of_some _ e] at q; cases q

theorem Src.range {tgt e : Expr} {n : Int} {np pos : Pos} (b : BName g sc "range" (.type "range")) (x : Ev g prog w k sc φ ρ e (.int n)) (h0 : 0 ≤ n) (h1 : n < 2 ^ 62)
    (he : ∀ env, starEach [e] env = [(false, eval e env)] := by intro _; rfl) : Src g prog w k sc ρ tgt (.Call (.Name "range" np) [e] [] pos) (rngD n.toNat) := by
  intro A env N s Q E hs hr z hQ
  refine call_open (b.use hs z (PyProof.Rows.callWith_type ?_ ?_))
  · rw [he]; rfl
  rw [he]
  refine Calls.evalArgs_plain (Calls.spliced_cons (x A env N s _ E hs hr z fun h₁ t₁ v m₁ d₁ => Calls.spliced_nil ?_))
  cases d₁
  refine call_range_1 ?_
  refine wpAny_pyIter_range (IsRange.new ..) (small_one (by decide) (by decide) (by omega) h1) ?_
  generalize hh₂ : h₁.push { cls := .type "range", data := .fields #[.int 0 t₁, .int n _, .int 1 (t₁ + 1)] } = h₂
  have m₂ : Mv g noO s.heap h₂ := m₁.trans (.ofKeep fun b o e => by rw [← hh₂]; exact Heap.get?_push_of_some _ e)
  have hf : s.heap.get? h₂.objs.size = none := by
    cases e : s.heap.get? h₂.objs.size with
    | none => rfl
    | some o => have := m₂.live h₂.objs.size (by rw [e]; rfl); rw [Cx.nextFresh] at this; cases this
  refine hQ _ _ h₂.objs.size (m₂.trans (.push _)) hf (by rw [Heap.get?_push_size _ rfl]; rfl) fun O hI hO => ⟨_, Itr.range hr.handled (n := n.toNat), ?_⟩
  have e1 : Builtin.Range.rangeSize 0 n 1 = (n.toNat : Int) - ((0 : Nat) : Int) := by rw [rangeSize_one]; split <;> omega
  rw [e1]
  exact Heap.get?_push_size _ rfl

/-- a method without arguments, on a dict -/
theorem meth_dict {o : Expr} {name : Str} {id : String} {apos pos : Pos} {kvs : List (PyData × PyData)} (x : Ev g prog w k sc φ ρ o (.dict kvs)) (hk : notOpen kvs = true) (slot : Slot "dict" name id) (hty : typeOf (.builtin id) = pure (.type "method_descriptor"))
    {A : Around} {s : Shared} {Q E : Value → Shared → Prop} (hs : env.scope = sc) (hr : Room A k) (z : St g w N env s.heap ρ) (hbase : attributeBase o name env (eval o env) = eval o env) (hline : (apos.endLine == pos.line) = true)
    (h : ∀ h₁ t₁ a es n, Mv g noO s.heap h₁ → ¬ N a → DictAtD w N h₁ a kvs es n → wpAny (model prog w) A (call (.builtin id) [.ref a]) Q E { s with heap := h₁, toks := t₁ }) :
    wpAny (model prog w) A (eval (.Call (.Attribute o name apos) [] [] pos) env) Q E s := by
  refine wpAny_Call_method (T := "dict") hbase rfl hline F.plainAttrs_dict slot hty (x A env N s _ E hs hr z fun h₁ t₁ v m₁ d₁ => ?_)
  obtain ⟨a, rfl⟩ := d₁.dictRef
  obtain ⟨na, es, n, hat⟩ := Den.dictAt d₁ hk
  have hat' : DictAtD w N h₁ a kvs es n := ⟨hat.1, hat.2.1.chg (.refl _ _) fun _ _ n => .inl n, hat.2.2⟩
  refine ⟨⟨_, hat.1, rfl⟩, fun b e => ?_, ?_⟩
  · cases e; exact ⟨_, hat.1, rfl⟩
  · exact callWith_method0 (h h₁ t₁ a es n m₁ (fun q => na (.inl q)) hat')

theorem ne_mods {h : Heap} (c : Cx g N h) {a : Addr} (ha : ¬ N a) : (a == sysModules) = false := by
  rw [beq_eq_false_iff_ne]; intro q; exact ha (q ▸ c.mods)
theorem new_none {O : Addr → Prop} {h h' : Heap} (m : Mv g O h h') : h.get? h'.objs.size = none := by
  cases e : h.get? h'.objs.size with
  | none => rfl
  | some o => have := m.live h'.objs.size (by rw [e]; rfl); rw [Cx.nextFresh] at this; cases this

theorem Src.items {o : Expr} {elts : List Expr} {x1 : Nat} {tp apos pos : Pos} {kvs : List (PyData × PyData)} (x : Ev g prog w k sc φ ρ o (.dict kvs)) (hk : notOpen kvs = true) (hbase : ∀ env, attributeBase o "items" env (eval o env) = eval o env := by intro _; rfl) (hline : (apos.endLine == pos.line) = true := by rfl) :
    Src g prog w k sc ρ (.Tuple elts x1 tp) (.Call (.Attribute o "items" apos) [] [] pos) (itemsD kvs) := by
  intro A env N s Q E hs hr z hQ
  refine meth_dict x hk F.slot_dict_items F.type_dict_items hs hr z (hbase env) hline fun h₁ t₁ a es n m₁ na hat => ?_
  refine raw_items (ne_mods z.cx na) hat.1 ?_
  refine raw_iter_items (v := h₁.objs.size) (d := a) (es := es.toArray) (ep := n) ⟨_, Heap.get?_push_size _ rfl, rfl, rfl⟩ (Heap.get?_push_of_some _ hat.1) ?_
  generalize hh₂ : h₁.push { cls := .type "dict_items", data := .fields #[.ref a] } = h₂
  have k₂ : ∀ b o, h₁.get? b = some o → h₂.get? b = some o := fun b o e => by rw [← hh₂]; exact Heap.get?_push_of_some _ e
  have m₂ : Mv g noO s.heap h₂ := m₁.trans (.ofKeep k₂)
  refine hQ _ _ h₂.objs.size (m₂.trans (.push _)) (new_none m₂) (by rw [Heap.get?_push_size _ rfl]; rfl) fun O hI hO => ?_
  have hna : h₁.get? a ≠ none := by rw [hat.1]; simp
  have hOa : ∀ b, (h₁.get? b).isSome → O b → False := fun b hb q => by
    cases e : h₁.get? b with
    | none => rw [e] at hb; cases hb
    | some o =>
      rcases hO b q with q | q
      · have := k₂ _ _ e; rw [q, Cx.nextFresh] at this; cases this
      · rw [Heap.get?_push_of_some _ (k₂ _ _ e)] at q; cases q
  have hai : a ≠ h₂.objs.size := fun q => by have := k₂ _ _ hat.1; rw [q, Cx.nextFresh] at this; cases this
  refine ⟨_, Itr.items hr.handled (I := h₂.objs.size) (d := a) (es := es) (ep := n) (.inr hI) hai (fun q => q.elim na fun q => hOa a (by rw [hat.1]; rfl) q), ⟨.none, .none, ?_⟩, ?_⟩
  · unfold IsItemIter; rw [Heap.get?_push_size _ rfl]; simp [rawInt]
  · refine ⟨Heap.get?_push_of_some _ (k₂ _ _ hat.1), hat.2.1.chg (.of fun b o e => Heap.get?_push_of_some _ (k₂ _ _ e)) fun b hb q => q.elim id fun q => (hOa b hb q).elim, hat.2.2⟩

theorem Src.values {tgt o : Expr} {apos pos : Pos} {kvs : List (PyData × PyData)} (x : Ev g prog w k sc φ ρ o (.dict kvs)) (hk : notOpen kvs = true) (hbase : ∀ env, attributeBase o "values" env (eval o env) = eval o env := by intro _; rfl) (hline : (apos.endLine == pos.line) = true := by rfl) :
    Src g prog w k sc ρ tgt (.Call (.Attribute o "values" apos) [] [] pos) (valuesD kvs) := by
  intro A env N s Q E hs hr z hQ
  refine meth_dict x hk F.slot_dict_values F.type_dict_values hs hr z (hbase env) hline fun h₁ t₁ a es n m₁ na hat => ?_
  refine raw_values (ne_mods z.cx na) hat.1 ?_
  refine raw_iter_values (v := h₁.objs.size) (d := a) (es := es.toArray) (ep := n) ⟨_, Heap.get?_push_size _ rfl, rfl, rfl⟩ (Heap.get?_push_of_some _ hat.1) ?_
  generalize hh₂ : h₁.push { cls := .type "dict_values", data := .fields #[.ref a] } = h₂
  have k₂ : ∀ b o, h₁.get? b = some o → h₂.get? b = some o := fun b o e => by rw [← hh₂]; exact Heap.get?_push_of_some _ e
  have m₂ : Mv g noO s.heap h₂ := m₁.trans (.ofKeep k₂)
  refine hQ _ _ h₂.objs.size (m₂.trans (.push _)) (new_none m₂) (by rw [Heap.get?_push_size _ rfl]; rfl) fun O hI hO => ?_
  have hOa : ∀ b, (h₁.get? b).isSome → O b → False := fun b hb q => by
    cases e : h₁.get? b with
    | none => rw [e] at hb; cases hb
    | some o =>
      rcases hO b q with q | q
      · have := k₂ _ _ e; rw [q, Cx.nextFresh] at this; cases this
      · rw [Heap.get?_push_of_some _ (k₂ _ _ e)] at q; cases q
  have hai : a ≠ h₂.objs.size := fun q => by have := k₂ _ _ hat.1; rw [q, Cx.nextFresh] at this; cases this
  refine ⟨_, Itr.values hr.handled (I := h₂.objs.size) (d := a) (es := es) (ep := n) (.inr hI) hai (fun q => q.elim na fun q => hOa a (by rw [hat.1]; rfl) q), ?_, ?_⟩
  · exact ⟨_, Heap.get?_push_size _ rfl, rfl, by simp⟩
  · refine ⟨Heap.get?_push_of_some _ (k₂ _ _ hat.1), hat.2.1.chg (.of fun b o e => Heap.get?_push_of_some _ (k₂ _ _ e)) fun b hb q => q.elim id fun q => (hOa b hb q).elim, hat.2.2⟩
end
end Mine

namespace Mine
open Sem (wp)

/-! chains of comparisons of ints -/
noncomputable def cmpI : CmpOp → Int → Int → Bool
  | .Eq, a, b => a == b
  | .NotEq, a, b => a != b
  | _, _, _ => false
noncomputable def chainI (a : Int) : List (CmpOp × Int) → Bool
  | [] => true
  | (op, b) :: r => cmpI op a b && chainI b r

section
variable {g : G} {prog : Program} {w : World} {k j : Nat} {sc : Scope} {φ φ₁ φ₂ φ₃ : Bool} {ρ : Rho} {N : Addr → Prop} {env : Env} {e l r : Expr} {a b c d : PyData} {pos : Pos}

inductive EvC (g : G) (prog : Program) (w : World) (k : Nat) (sc : Scope) (ρ : Rho) : List CmpOp → List Expr → List (CmpOp × Int) → Prop
  | nil : EvC g prog w k sc ρ [] [] []
  | eq {r : Expr} {b : Int} {ops : List CmpOp} {rs : List Expr} {l : List (CmpOp × Int)} : Ev g prog w k sc false ρ r (.int b) → EvC g prog w k sc ρ ops rs l → EvC g prog w k sc ρ (.Eq :: ops) (r :: rs) ((.Eq, b) :: l)
  | ne {r : Expr} {b : Int} {ops : List CmpOp} {rs : List Expr} {l : List (CmpOp × Int)} : Ev g prog w k sc false ρ r (.int b) → EvC g prog w k sc ρ ops rs l → EvC g prog w k sc ρ (.NotEq :: ops) (r :: rs) ((.NotEq, b) :: l)

theorem cmp_eqI {i j : Int} : Op2 g prog w k φ (compareOp .Eq) (.int i) (.int j) (.bool (cmpI .Eq i j)) := Op2.eqI
theorem cmp_neI {i j : Int} : Op2 g prog w k φ (compareOp .NotEq) (.int i) (.int j) (.bool (cmpI .NotEq i j)) := Op2.neI

theorem test_run : ∀ {ops : List CmpOp} {rs : List Expr} {l : List (CmpOp × Int)}, EvC g prog w k sc ρ ops rs l → ops ≠ [] → ∀ {A : Around} {s : Shared} {i : Int} {t : Tok} {Q : Bool → Shared → Prop} {E : Value → Shared → Prop}, env.scope = sc → Room A k → St g w N env s.heap ρ →
    (∀ h' tk, Mv g noO s.heap h' → Q (chainI i l) { s with heap := h', toks := tk }) → wpAny (model prog w) A (testChain pos (.int i t) ops (evalEach rs env)) Q E s := by
  intro ops rs l x
  induction x with
  | nil => intro q; exact absurd rfl q
  | @eq r b ops rs l x y ih =>
    intro _ A s i t Q E hs hr z hQ
    have link : ∀ (P : Bool → Shared → Prop), (∀ h' tk t', Mv g noO s.heap h' → wpAny (model prog w) A (compareOp .Eq (.int i t) (.int b t')) (fun c s₂ => wpAny (model prog w) A (truthy c) P E s₂) E { s with heap := h', toks := tk } ) → True := fun _ _ => trivial
    have tru : ∀ {s₁ : Shared} {t' : Tok} {P : Bool → Shared → Prop}, Mv g noO s.heap s₁.heap → (∀ h' tk, Mv g noO s₁.heap h' → P (cmpI .Eq i b) { s₁ with heap := h', toks := tk }) → wpAny (model prog w) A (compareOp .Eq (.int i t) (.int b t')) (fun c s₂ => wpAny (model prog w) A (truthy c) P E s₂) E s₁ := by
      intro s₁ t' P m hP
      refine cmp_eqI (g := g) (k := k) (φ := false) A N s₁ _ _ _ E hr (z.gr m).cx (.int _ _) (.int _ _) fun h' tk r m' d => ?_
      cases d
      exact wpAny_truthy_bool (hP h' tk m')
    cases y with
    | nil =>
      refine test_last (x A env N s _ E hs hr z fun h₁ t₁ v m₁ d₁ => ?_)
      cases d₁
      refine tru m₁ fun h₂ t₂ m₂ => ?_
      simpa [chainI] using hQ h₂ t₂ (m₁.trans m₂)
    | @eq r' b' ops' rs' l' x' y' =>
      refine test_link (x A env N s _ E hs hr z fun h₁ t₁ v m₁ d₁ => ?_)
      cases d₁
      refine tru m₁ fun h₂ t₂ m₂ => ?_
      cases hc : cmpI .Eq i b with
      | false => simpa [chainI, hc] using hQ h₂ t₂ (m₁.trans m₂)
      | true => exact ih (by simp) hs hr ((z.gr m₁).gr m₂) fun h₃ t₃ m₃ => by simpa [chainI, hc] using hQ h₃ t₃ ((m₁.trans m₂).trans m₃)
    | @ne r' b' ops' rs' l' x' y' =>
      refine test_link (x A env N s _ E hs hr z fun h₁ t₁ v m₁ d₁ => ?_)
      cases d₁
      refine tru m₁ fun h₂ t₂ m₂ => ?_
      cases hc : cmpI .Eq i b with
      | false => simpa [chainI, hc] using hQ h₂ t₂ (m₁.trans m₂)
      | true => exact ih (by simp) hs hr ((z.gr m₁).gr m₂) fun h₃ t₃ m₃ => by simpa [chainI, hc] using hQ h₃ t₃ ((m₁.trans m₂).trans m₃)
  | @ne r b ops rs l x y ih =>
    intro _ A s i t Q E hs hr z hQ
    have tru : ∀ {s₁ : Shared} {t' : Tok} {P : Bool → Shared → Prop}, Mv g noO s.heap s₁.heap → (∀ h' tk, Mv g noO s₁.heap h' → P (cmpI .NotEq i b) { s₁ with heap := h', toks := tk }) → wpAny (model prog w) A (compareOp .NotEq (.int i t) (.int b t')) (fun c s₂ => wpAny (model prog w) A (truthy c) P E s₂) E s₁ := by
      intro s₁ t' P m hP
      refine cmp_neI (g := g) (k := k) (φ := false) A N s₁ _ _ _ E hr (z.gr m).cx (.int _ _) (.int _ _) fun h' tk r m' d => ?_
      cases d
      exact wpAny_truthy_bool (hP h' tk m')
    cases y with
    | nil =>
      refine test_last (x A env N s _ E hs hr z fun h₁ t₁ v m₁ d₁ => ?_)
      cases d₁
      refine tru m₁ fun h₂ t₂ m₂ => ?_
      simpa [chainI] using hQ h₂ t₂ (m₁.trans m₂)
    | @eq r' b' ops' rs' l' x' y' =>
      refine test_link (x A env N s _ E hs hr z fun h₁ t₁ v m₁ d₁ => ?_)
      cases d₁
      refine tru m₁ fun h₂ t₂ m₂ => ?_
      cases hc : cmpI .NotEq i b with
      | false => simpa [chainI, hc] using hQ h₂ t₂ (m₁.trans m₂)
      | true => exact ih (by simp) hs hr ((z.gr m₁).gr m₂) fun h₃ t₃ m₃ => by simpa [chainI, hc] using hQ h₃ t₃ ((m₁.trans m₂).trans m₃)
    | @ne r' b' ops' rs' l' x' y' =>
      refine test_link (x A env N s _ E hs hr z fun h₁ t₁ v m₁ d₁ => ?_)
      cases d₁
      refine tru m₁ fun h₂ t₂ m₂ => ?_
      cases hc : cmpI .NotEq i b with
      | false => simpa [chainI, hc] using hQ h₂ t₂ (m₁.trans m₂)
      | true => exact ih (by simp) hs hr ((z.gr m₁).gr m₂) fun h₃ t₃ m₃ => by simpa [chainI, hc] using hQ h₃ t₃ ((m₁.trans m₂).trans m₃)

theorem Tr.chain {op₁ op₂ : CmpOp} {ops : List CmpOp} {r₁ r₂ : Expr} {rs : List Expr} {i : Int} {cs : List (CmpOp × Int)} (x : Ev g prog w k sc φ ρ l (.int i)) (y : EvC g prog w k sc ρ (op₁ :: op₂ :: ops) (r₁ :: r₂ :: rs) cs)
    (hm : lastMarks (op₁ :: op₂ :: ops) (r₁ :: r₂ :: rs) = false := by rfl) : Tr g prog w k sc ρ (.Compare l (op₁ :: op₂ :: ops) (r₁ :: r₂ :: rs) pos) (chainI i cs) := by
  intro A env N s Q E hs hr z hQ
  refine isTrue_chain (x A env N s _ E hs hr z fun h₁ t₁ v m₁ d₁ => ?_) hm
  cases d₁
  exact test_run (pos := pos) y (by simp) hs hr (z.gr m₁) fun h₂ t₂ m₂ => hQ h₂ t₂ (m₁.trans m₂)
/-! calls -/
noncomputable def Fn (g : G) (prog : Program) (w : World) (k : Nat) (φ : Bool) (f : Value) (ds : List PyData) (d : PyData) : Prop :=
  ∀ (A : Around) (N : Addr → Prop) (s : Shared) (vs : List Value) (Q : Value → Shared → Prop) (E : Value → Shared → Prop), Room A k → Cx g N s.heap → DenL w N s.heap ds vs →
    (∀ h' tk r, Mv g noO s.heap h' → Den w (fun a => N a ∨ (φ = true ∧ (s.heap.get? a).isSome)) h' d r → Q r { s with heap := h', toks := tk }) → wpAny (model prog w) A (call f vs) Q E s

theorem Ev.fnT {x : Str} {T : String} {np : Pos} {es : List Expr} {ds : List PyData} (b : BName g sc x (.type T)) (y : EvL g prog w k sc φ₁ ρ (e :: es) ds) (f : Fn g prog w k φ (.type T) ds d) (hd : (x == ("__debug__" : Str)) = false := by decide)
    (he : ∀ env, starEach (e :: es) env = (false, eval e env) :: starEach es env := by intro _; rfl) (hpl : ∀ env, (backTo pos (starEach es env)).any (·.1) = false := by intro _; rfl) : Ev g prog w k sc φ ρ (.Call (.Name x np) (e :: es) [] pos) d := by
  intro A env N s Q E hs hr z hQ
  refine call_open (b.use hs z ?_ hd)
  have y' := y A env N s pos (fun vs s₁ => wpAny (model prog w) A (call (.type T) vs) Q E s₁) E hs hr z fun h₁ t₁ vs m₁ d₁ => f A N _ vs Q E hr (z.gr m₁).cx (d₁.weaken fun a _ n => .inl n) fun h₂ t₂ r m₂ d₂ => hQ h₂ t₂ r (m₁.trans m₂) (d₂.weaken fun a _ n => n.elim .inl fun q => .inr ⟨q.1, m₁.live a q.2⟩)
  rw [he env] at y' ⊢
  exact PyProof.Rows.callWith_type (by show (false || (backTo pos (starEach es env)).any (·.1)) = false; rw [hpl]; rfl) (Calls.evalArgs_plain y')

theorem Ev.fnB {x : Str} {T : String} {np : Pos} {es : List Expr} {ds : List PyData} (b : BName g sc x (.builtin T)) (y : EvL g prog w k sc φ₁ ρ (e :: es) ds) (f : Fn g prog w k φ (.builtin T) ds d) (hd : (x == ("__debug__" : Str)) = false := by decide)
    (he : ∀ env, starEach (e :: es) env = (false, eval e env) :: starEach es env := by intro _; rfl) (hpl : ∀ env, (backTo pos (starEach es env)).any (·.1) = false := by intro _; rfl) : Ev g prog w k sc φ ρ (.Call (.Name x np) (e :: es) [] pos) d := by
  intro A env N s Q E hs hr z hQ
  refine call_open (b.use hs z ?_ hd)
  have y' := y A env N s pos (fun vs s₁ => wpAny (model prog w) A (call (.builtin T) vs) Q E s₁) E hs hr z fun h₁ t₁ vs m₁ d₁ => f A N _ vs Q E hr (z.gr m₁).cx (d₁.weaken fun a _ n => .inl n) fun h₂ t₂ r m₂ d₂ => hQ h₂ t₂ r (m₁.trans m₂) (d₂.weaken fun a _ n => n.elim .inl fun q => .inr ⟨q.1, m₁.live a q.2⟩)
  rw [he env] at y' ⊢
  exact Calls.callWith_builtin (by show (false || (backTo pos (starEach es env)).any (·.1)) = false; rw [hpl]; rfl) (Calls.evalArgs_plain y')

theorem Fn.len {ds : List PyData} (hsz : (ds.length : Int) < 2 ^ 63) : Fn g prog w k φ (.builtin "len") [.list ds] (.int ds.length) := by
  intro A N s vs Q E hr c dv hQ
  cases dv with
  | cons x r =>
    cases r
    obtain ⟨a, rfl⟩ := x.listRef
    obtain ⟨na, us, n, ea, ra⟩ := x.isList
    have hl := ra.length
    simp only [Array.length_toList] at hl
    refine Calls.call_len_list (isList_of ea) (by rw [← hl]; exact hsz) ?_
    rw [← hl]
    exact hQ s.heap _ _ .refl (.int _ _)
theorem Fn.abs {i : Int} : Fn g prog w k φ (.builtin "abs") [.int i] (.int (if i < 0 then -i else i)) := by
  intro A N s vs Q E hr c dv hQ
  cases dv with
  | cons x r =>
    cases r; cases x
    exact call_abs_int fun u tk => hQ s.heap tk _ .refl (.int _ _)
theorem Fn.intB {b : Bool} : Fn g prog w k φ (.type "int") [.bool b] (.int (if b then 1 else 0)) := by
  intro A N s vs Q E hr c dv hQ
  cases dv with
  | cons x r =>
    cases r; cases x
    exact call_int_bool (hQ s.heap _ _ .refl (.int _ _))
theorem Fn.max2 {a b : Int} : Fn g prog w k φ (.builtin "max") [.int a, .int b] (.int (if b > a then b else a)) := by
  intro A N s vs Q E hr c dv hQ
  cases dv with
  | cons x r =>
    cases r with
    | cons y r =>
      cases r; cases x; cases y
      refine max_two_ints hr.handled fun h' tk k => ?_
      have : ∀ t u : Tok, (if b > a then Value.int b u else .int a t) = .int (if b > a then b else a) (if b > a then u else t) := by intro t u; split <;> rfl
      rw [this]
      exact hQ h' tk _ (.ofKeep k) (.int _ _)
theorem Fn.min2 {a b : Int} : Fn g prog w k φ (.builtin "min") [.int a, .int b] (.int (if b < a then b else a)) := by
  intro A N s vs Q E hr c dv hQ
  cases dv with
  | cons x r =>
    cases r with
    | cons y r =>
      cases r; cases x; cases y
      refine min_two_ints hr.handled fun h' tk k => ?_
      have : ∀ t u : Tok, (if b < a then Value.int b u else .int a t) = .int (if b < a then b else a) (if b < a then u else t) := by intro t u; split <;> rfl
      rw [this]
      exact hQ h' tk _ (.ofKeep k) (.int _ _)
theorem Fn.tupleL {ds : List PyData} (hsz : ds.length ≤ sizeLine) (hf : φ = true → flatDs ds = true) : Fn g prog w k φ (.type "tuple") [.list ds] (.tuple ds) := by
  intro A N s vs Q E hr c dv hQ
  cases dv with
  | cons x r =>
    cases r
    obtain ⟨a, rfl⟩ := x.listRef
    obtain ⟨na, us, n, ea, ra⟩ := x.isList
    have hl := ra.length
    simp only [Array.length_toList] at hl
    refine call_tuple_list (isList_of ea) (fun h' k => ?_) (by rw [← hl]; exact hsz)
    refine hQ _ s.toks _ ((Mv.ofKeep k).trans (.push _)) (.tuple (Heap.get?_push_size _ rfl) rfl rfl ((ra.handed hf (h₀ := s.heap)).chg (.of fun b o e => Heap.get?_push_of_some _ (k b o e)) fun _ _ n => n))

theorem ints_at : ∀ {vs : List Value} {ns : List Int}, IntsAre vs ns → ∀ {i : Nat} {v : Value}, vs[i]? = some v → ∃ t, v = .int (ns.getD i 0) t
  | _, _, .nil, i, v, e => by simp at e
  | _, _, .cons n t r, 0, v, e => by simp at e; exact ⟨t, by simp [e]⟩
  | _, _, .cons n t r, i + 1, v, e => by
    rw [List.getElem?_cons_succ] at e
    obtain ⟨u, h⟩ := ints_at r e
    exact ⟨u, by simpa using h⟩

/-- a list asked for an iterator, as the walkers want it -/
theorem iter_walk {A : Around} {s : Shared} {l : Addr} {us : Array Value} {E : Value → Shared → Prop} {Q : Value → Shared → Prop} (hl : s.heap.IsList l us)
    (h : ∀ s₂ : Shared, s₂ = { s with heap := s.heap.push { cls := .type "list_iterator", data := .fields #[.ref l, .int 0 0] } } → (s₂.heap.IsListIter s.heap.objs.size l 0 ∧ s₂.heap.IsList l us) → (∀ b ∈ [s.heap.objs.size, l], b < s₂.heap.objs.size) → l ≠ s.heap.objs.size → Q (.ref s.heap.objs.size) s₂) :
    wpAny (model prog w) A (pyIter (.ref l)) Q E s := by
  have hlt : l < s.heap.objs.size := by obtain ⟨_, e, _⟩ := hl; exact Heap.lt_size e
  refine wpAny_pyIter_list hl (h _ rfl ⟨⟨_, Heap.get?_push_size _ rfl, rfl, rfl⟩, hl.push _⟩ (fun b hb => ?_) (Nat.ne_of_lt hlt))
  show b < (s.heap.push _).objs.size
  rw [Heap.size_push]
  simp only [List.mem_cons, List.not_mem_nil, or_false] at hb
  rcases hb with rfl | rfl
  · exact Nat.lt_succ_self _
  · exact Nat.lt_succ_of_lt hlt
theorem iter_kept {h h' : Heap} {o' : Obj} (hk : ∀ b o, b ∉ [h.objs.size] → (h.push o').get? b = some o → h'.get? b = some o) : ∀ b o, h.get? b = some o → h'.get? b = some o := fun b o e => by
  refine hk b o (fun hm => ?_) (Heap.get?_push_of_some _ e)
  simp only [List.mem_cons, List.not_mem_nil, or_false] at hm
  exact absurd (hm ▸ Heap.lt_size e) (Nat.lt_irrefl _)

theorem Fn.sum {ns : List Int} : Fn g prog w k φ (.builtin "sum") [.list (ns.map .int)] (.int ns.sum) := by
  intro A N s vs Q E hr c dv hQ
  cases dv with
  | cons x r =>
    cases r
    obtain ⟨a, rfl⟩ := x.listRef
    obtain ⟨na, us, n, ea, ra⟩ := x.isList
    have hi := ra.ints
    have hl := hi.length
    simp only [Array.length_toList] at hl
    refine call_sum_walkG (iter_walk (isList_of ea) fun s₂ e st hfp hne => ?_)
    subst e
    refine ⟨_, _, _, _, _, _, fun i => ns.getD i 0, rfl, Walks.list (A := A.in1) hr.handled _ a hne us, st, hfp, fun i v e => ints_at hi (by simpa using e), fun h' tk t' hk => ?_⟩
    have e1 : preSum (fun i => ns.getD i 0) us.size = ns.sum := by rw [preSum_getD, hl, List.take_length]
    rw [e1]
    exact hQ h' tk _ (.ofKeep (iter_kept hk)) (.int _ _)

theorem Fn.maxL {a b : Int} : Fn g prog w k φ (.builtin "max") [.list [.int a, .int b]] (.int (if b > a then b else a)) := by
  intro A N s vs Q E hr c dv hQ
  cases dv with
  | cons x r =>
    cases r
    obtain ⟨l, rfl⟩ := x.listRef
    obtain ⟨na, us, n, ea, ra⟩ := x.isList
    have hi : IntsAre us.toList [a, b] := ra.ints (ns := [a, b])
    have hl := hi.length
    simp only [Array.length_toList, List.length_cons, List.length_nil] at hl
    refine call_max_walk (iter_walk (isList_of ea) fun s₂ e st hfp hne => ?_)
    subst e
    refine ⟨_, _, _, _, _, _, _, rfl, Walks.list (A := A.in1) hr.handled _ l hne us, st, hfp, by omega, CmpOf.ints_gt (fun i => [a, b].getD i 0) (fun i v e => ints_at hi (by simpa using e)), fun v h' tk hP hk => ?_⟩
    rw [hl] at hP
    have hP' : us.toList[argBest (fun i j => decide ([a, b].getD i 0 > [a, b].getD j 0)) (2 - 1)]? = some v := by rw [← hP, Array.getElem?_toList]
    obtain ⟨t, rfl⟩ := ints_at hi hP'
    have e1 : [a, b].getD (argBest (fun i j => decide ([a, b].getD i 0 > [a, b].getD j 0)) (2 - 1)) 0 = if b > a then b else a := by
      simp only [argBest]
      by_cases q : b > a <;> simp [q]
    rw [e1]
    exact hQ h' tk _ (.ofKeep (iter_kept hk)) (.int _ _)
end
end Mine

namespace Mine
open Sem (wp)

noncomputable def RunN (g : G) (prog : Program) (w : World) (k : Nat) (sc : Scope) (ρ : Rho) (body : List Stmt) (ρ' : Rho) : Prop :=
  ∀ (A : Around) (env : Env) (N : Addr → Prop) (s : Shared) (Q : Flow → Shared → Prop) (E : Value → Shared → Prop), env.scope = sc → Room A k → St g w N env s.heap ρ →
    (∀ h' tk, Mv g (OwnC env) s.heap h' → St g w N env h' ρ' → Q .next { s with heap := h', toks := tk }) → wpAny (model prog w) A (execs body env) Q E s
noncomputable def RunR (g : G) (prog : Program) (w : World) (k : Nat) (sc : Scope) (φ : Bool) (ρ : Rho) (body : List Stmt) (d : PyData) : Prop :=
  ∀ (A : Around) (env : Env) (N : Addr → Prop) (s : Shared) (Q : Flow → Shared → Prop) (E : Value → Shared → Prop), env.scope = sc → Room A k → St g w N env s.heap ρ →
    (∀ h' tk v, Mv g (OwnC env) s.heap h' → Den w (fun a => N a ∨ (φ = true ∧ (s.heap.get? a).isSome)) h' d v → Q (.ret v) { s with heap := h', toks := tk }) → wpAny (model prog w) A (execs body env) Q E s

section
variable {g : G} {prog : Program} {w : World} {k j : Nat} {sc : Scope} {φ φ₁ φ₂ φ₃ : Bool} {ρ ρ' ρ₁ ρ₂ : Rho} {N : Addr → Prop} {env : Env} {e l r test : Expr} {a b c d : PyData} {pos : Pos} {body rest orelse : List Stmt} {st : Stmt}

theorem Fn.up {f : Value} {ds : List PyData} (x : Fn g prog w k φ f ds d) (h : k ≤ j) : Fn g prog w j φ f ds d := fun A N s vs Q E hr c dv hQ => x A N s vs Q E (hr.le h) c dv hQ
theorem RunN.nil : RunN g prog w k sc ρ [] ρ := fun A env N s Q E hs hr z hQ => wpAny_execs_nil (hQ s.heap s.toks .refl z)
theorem RunN.weakTo (x : RunN g prog w k sc ρ body ρ') (h : ∀ x d, ρ₁.lookup x = some d → ρ'.lookup x = some d) : RunN g prog w k sc ρ body ρ₁ := fun A env N s Q E hs hr z hQ => x A env N s Q E hs hr z fun h' tk m z' => hQ h' tk m (z'.weaken h)
theorem RunR.weak (x : RunR g prog w k sc φ ρ body d) (h : ∀ x d, ρ.lookup x = some d → ρ₁.lookup x = some d) : RunR g prog w k sc φ ρ₁ body d := fun A env N s Q E hs hr z hQ => x A env N s Q E hs hr (z.weaken h) hQ

theorem execs_one (st : Stmt) (env : Env) : execs [st] env = exec st env := by
  rw [execs_cons]
  conv => rhs; rw [← bind_pure (exec st env)]
  refine bind_congr fun f => ?_
  cases f <;> rfl
/-- one statement, as RunN says, then what comes -/
theorem RunN.exec1 (x : RunN g prog w k sc ρ [st] ρ₁) {A : Around} {s : Shared} {Q : Flow → Shared → Prop} {E : Value → Shared → Prop} (hs : env.scope = sc) (hr : Room A k) (z : St g w N env s.heap ρ)
    (hQ : ∀ h' tk, Mv g (OwnC env) s.heap h' → St g w N env h' ρ₁ → Q .next { s with heap := h', toks := tk }) : wpAny (model prog w) A (exec st env) Q E s := by
  have := x A env N s Q E hs hr z hQ
  rwa [execs_one] at this

theorem RunR.seq (x : RunN g prog w k sc ρ [st] ρ₁) (y : RunR g prog w k sc φ ρ₁ rest d) : RunR g prog w k sc φ ρ (st :: rest) d := by
  intro A env N s Q E hs hr z hQ
  rw [execs_cons]
  refine wpAny_bind (x.exec1 hs hr z fun h₁ t₁ m₁ z₁ => ?_)
  exact y A env N _ Q E hs hr z₁ fun h₂ t₂ v m₂ d₂ => hQ h₂ t₂ v (m₁.trans m₂) (d₂.weaken fun a _ n => n.elim .inl fun q => .inr ⟨q.1, m₁.live a q.2⟩)
theorem RunN.of_exec (h : ∀ (A : Around) (env : Env) (N : Addr → Prop) (s : Shared) (Q : Flow → Shared → Prop) (E : Value → Shared → Prop), env.scope = sc → Room A k → St g w N env s.heap ρ →
    (∀ h' tk, Mv g (OwnC env) s.heap h' → St g w N env h' ρ' → Q .next { s with heap := h', toks := tk }) → wpAny (model prog w) A (exec st env) Q E s) : RunN g prog w k sc ρ [st] ρ' := by
  intro A env N s Q E hs hr z hQ
  rw [execs_cons]
  exact wpAny_bind (h A env N s _ E hs hr z fun h' tk m z' => wpAny_execs_nil (hQ h' tk m z'))
theorem RunR.ret (x : Ev g prog w k sc φ ρ e d) : RunR g prog w k sc φ ρ (.Return (some e) pos :: rest) d := by
  intro A env N s Q E hs hr z hQ
  rw [execs_cons]
  refine wpAny_bind (wpAny_Return_some (x A env N s _ E hs hr z fun h' tk v m dv => wpAny_pure (hQ h' tk v (m.mono fun _ q => q.elim) dv)))
theorem RunN.ite {t : Bool} (x : Tr g prog w k sc ρ test t) (y : RunN g prog w k sc ρ (if t = true then body else orelse) ρ') : RunN g prog w k sc ρ [.If test body orelse pos] ρ' := by
  refine .of_exec fun A env N s Q E hs hr z hQ => ?_
  refine wpAny_If (x A env N s _ E hs hr z fun h₁ t₁ m₁ => ?_)
  have := y A env N { s with heap := h₁, toks := t₁ } Q E hs hr (z.gr m₁) fun h₂ t₂ m₂ z₂ => hQ h₂ t₂ ((m₁.mono fun _ q => q.elim).trans m₂) z₂
  cases t <;> exact this
theorem RunN.ifF (x : Tr g prog w k sc ρ test false) : RunN g prog w k sc ρ [.If test body [] pos] ρ := .ite x (by simp only [Bool.false_eq_true, if_false]; exact .nil)

theorem RunN.assign {t : Expr} {xs : List Str} (x : Ev g prog w k sc φ ρ e d) (b : BindR t d ρ ρ' xs) (hx : xs.all (storable sc) = true) (hs1 : ∀ env, env.scope = sc → swapsWithSole [t] e pos.line env = pure false) (hw : ∀ env, env.scope = sc → swappedStores [t] e env = pure none) :
    RunN g prog w k sc ρ [.Assign [t] e pos] ρ' := by
  refine .of_exec fun A env N s Q E hs hr z hQ => ?_
  have hst : (assignEach [t] env).map (·.2) = [PySem.assign t env] := by
    have := b.plain
    cases t <;> simp [assignEach] at this ⊢
  rw [exec_Assign, hs1 env hs]
  refine wpAny_bind (wpAny_standAt (wpAny_bind (wpAny_pure ?_)))
  rw [if_neg (by decide)]
  refine wpAny_bind (x A env N s _ E hs hr z fun h₁ t₁ v m₁ d₁ => ?_)
  rw [hw env hs, hst]
  refine wpAny_bind (wpAny_pure ?_)
  show wpAny _ A (do assignAll v [PySem.assign t env]; pure .next) Q E _
  refine wpAny_bind ?_
  show wpAny _ A (PySem.assign t env v) _ E _
  refine assign_sound b hs hr.handled (fun y hy => List.all_eq_true.mp hx y hy) (z.gr m₁) (den_plain d₁) fun h₂ t₂ m₂ z₂ => wpAny_pure ?_
  exact hQ h₂ t₂ ((m₁.mono fun _ q => q.elim).trans (m₂.mono fun a o => o.c)) z₂

/-- an assignment of a comprehension to a plain local name -/
theorem RunN.assignComp {elt t iter : Expr} {ifs : List Expr} {more : List Comprehension} {scope : Scope} {cpos npos : Pos} {ds out : List PyData} {T : List Str} {y : Str}
    (x : Src g prog w k sc ρ t iter ds) (hl : LoopOk g prog w k (relabelS scope sc) φ T (.ListComp elt (⟨t, iter, ifs, 0⟩ :: more) scope cpos) 0 t (inner scope ρ) ds out)
    (hsz : out.length ≤ sizeLine) (hy : storable sc y = true) (hck : compOk scope sc = true) (hT : T.all (fun x => scope.names.lookup x == some .local || scope.names.lookup x == some .cell) = true) (hf : ∀ env x, foldedSetIterable iter env x = pure x)
    (hsw : ∀ env, env.scope = sc → swapsWith (.ListComp elt (⟨t, iter, ifs, 0⟩ :: more) scope cpos) (some (.Name y npos)) pos.line env = pure true) :
    RunN g prog w k sc ρ [.Assign [.Name y npos] (.ListComp elt (⟨t, iter, ifs, 0⟩ :: more) scope cpos) pos] ((y, .list out) :: ρ) := by
  refine .of_exec fun A env N s Q E hs hr z hQ => ?_
  obtain ⟨hkind, hnm⟩ := compOk_at hck
  obtain ⟨cl, hclos, hcl1, hcl2⟩ := closureFor_ok (scope := scope) (env := env) fun x m q => z.ok.has x.1 (by
    unfold Env.kindOf; rw [hs]
    exact (hnm x.1 x.2 m).2.1 q)
  rw [exec_Assign_Name_used _ _ _ _ (hsw env hs)]
  refine wpAny_bind (wpAny_standAt (wpAny_bind ?_))
  show wpAny _ A (do let _ ← comprehension (.ListComp elt (⟨t, iter, ifs, 0⟩ :: more) scope cpos) scope env _ (newList []) false (eval iter env) (some (PySem.assign (.Name y npos) env))) _ _ s
  refine wpAny_bind (wpAny_mono (wpAny_comprehension_free (use := some (PySem.assign (.Name y npos) env)) (Q := fun _ s' => Q .next s') rfl (hf env) hclos hkind (fun x m q => (hnm x.1 x.2 m).1.trans (by rw [q])) ?_) (fun _ s' hq => wpAny_pure (wpAny_pure hq)) fun _ _ e => e)
  refine comp_run hck hT hcl1 hcl2 x hl hsz hs hr z fun D C h₁ t₁ m₁ hD hC hCD hn ha => ?_
  obtain ⟨m', hn⟩ := hn
  have hCl : (h₁.get? C).isSome := ns_some hn
  have z₁ : St g w (fun a => N a ∨ a = C) env h₁ ρ := z.new m₁ fun a q => ⟨q ▸ hC, q ▸ hCl⟩
  have dD : Den w (fun a => N a ∨ a = C) h₁ (.list out) (.ref D) := by
    obtain ⟨vs, n, e, r, _⟩ := ha
    refine .list (fun q => ?_) e (r.weaken fun a _ q => .inl q)
    rcases q with q | q
    · exact z.cx.fresh hD q
    · exact hCD q.symm
  have hoC : ¬ Own env C ∧ g.base.get? C = none ∧ ¬ g.T C := ⟨fun o => z.cx.fresh hC (z.ok.own C o).1, z.cx.baseFresh hC, fun t => z.cx.fresh hC (z.cx.tabs C t)⟩
  show wpAny _ A (PySem.assign (.Name y npos) env (.ref D)) _ _ _
  refine wpAny_assign_Name (store_sound hs hy z₁ dD fun h₂ t₂ m₂ z₂ => ?_)
  have hn₂ : h₂.Ns C m' := by
    obtain ⟨o, es, ep, e, r⟩ := hn
    exact ⟨o, es, ep, m₂.keep _ _ e (.inl ⟨hoC.2.2, fun q => hoC.1 q.own⟩), r⟩
  refine ⟨m', hn₂, fun h₃ hs₃ => ?_⟩
  have m₃ : MvX g (fun a => a = C) C h₂ h₃ := .one hs₃.extBut rfl hoC.2.2 (ns_not hn₂)
  have z₃ := (z₂.mvx m₃ (.inr rfl) hoC).sub (N := N) (fun a n => ⟨.inl n, fun q => z.cx.fresh hC (q ▸ n)⟩) z.cx.mods z.cx.tabs fun a o => (z.ok.own a o).1
  refine hQ h₃ t₂ (MvX.fresh ((m₁.mono fun _ q => q.elim).trans (m₂.mono fun a o => o.c)) m₃ hC fun a q => .inr (q ▸ hC)) z₃

theorem RunN.aug {x : Str} {npos : Pos} {i j : Int} (hx : ρ.lookup x = some (.int i)) (y : Ev g prog w k sc φ ρ e (.int j)) (hst : storable sc x = true) (hc : (x == ("__classdict__" : Str)) = false := by decide) :
    RunN g prog w k sc ρ [.AugAssign (.Name x npos) .Add e pos] ((x, .int (i + j)) :: ρ) := by
  refine .of_exec fun A env N s Q E hs hr z hQ => ?_
  obtain ⟨v, hv, hD⟩ := z.den x _ hx
  cases hD
  rename_i tk0
  have fin : wpAny (model prog w) A (eval e env) (fun v s₂ => wpAny (model prog w) A (inplaceOp .Add (.int i tk0) v) (fun r s₃ => wpAny (model prog w) A (storeName env x r) (fun _ => Q .next) E s₃) E s₂) E s := by
    refine y A env N s _ E hs hr z fun h₁ t₁ v m₁ d₁ => ?_
    cases d₁
    refine PySem.P.iadd_int ?_
    exact store_sound hs hst (z.gr m₁) (.int _ _) fun h₂ t₂ m₂ z₂ => hQ h₂ t₂ ((m₁.mono fun _ q => q.elim).trans (m₂.mono fun a o => o.c)) z₂
  refine wpAny_AugAssign_Name ?_
  rcases hv with ⟨a, m, n, e⟩ | ⟨a | a, c, e, n⟩
  · exact wpAny_loadName_local z.ok.kind a n e fin
  · exact wpAny_loadName_cell z.ok.kind a e n fin
  · exact wpAny_loadName_free z.ok.kind a e n fin hc
end
end Mine

namespace Mine
open Sem (wp)

section
variable {g : G} {prog : Program} {w : World} {k j : Nat} {sc : Scope} {φ φ₁ φ₂ φ₃ : Bool} {ρ ρ' ρ₁ ρ₂ : Rho} {N : Addr → Prop} {env : Env} {e l r test : Expr} {a b c d : PyData} {pos : Pos} {body rest orelse : List Stmt} {st : Stmt}

theorem for_run {α : Type} {l : List α} {f : α → PyData} {R : Nat → Rho} {K : (Addr → Prop) → Nat → Heap → Prop} {O : Addr → Prop} {tgt iter : Expr} {A : Around} {s : Shared} {Q : Flow → Shared → Prop} {E : Value → Shared → Prop}
    (src : Src g prog w k sc ρ tgt iter (l.map f)) (hf : ∀ env x, foldedSetIterable iter env x = pure x) (hs : env.scope = sc) (hr : Room A k) (z : St g w N env s.heap ρ) (hR0 : ∀ x d, (R 0).lookup x = some d → ρ.lookup x = some d)
    (hO : ∀ a, O a → N a ∧ g.base.get? a = none)
    (hK0 : ∀ h' N', Mv g noO s.heap h' → (∀ a, N a → N' a) → (∀ a, N' a → N a ∨ s.heap.get? a = none) → K N' 0 h')
    (hKs : ∀ N' i h h', (∀ a, N a → N' a) → K N' i h → Chg N' h h' → (∀ b o, N b → h.get? b = some o → h'.get? b = some o) → K N' i h')
    (step : ∀ i a (N' : Addr → Prop) h tk v (Q' : Unit → Shared → Prop) (E' : Value → Shared → Prop), l[i]? = some a → (∀ a, N a → N' a) → St g w N' env h (R i) → K N' i h → Den w N' h (f a) v →
      (∀ h' tk', Mv g (fun a => OwnC env a ∨ O a) h h' → St g w N' env h' (R (i + 1)) → K N' (i + 1) h' → Q' () { s with heap := h', toks := tk' }) →
      wpAny (model prog w) A (PySem.assign tgt env v) (fun _ s₂ => wpAny (model prog w) A (execs body env) (fun fl s₃ => fl = .next ∧ Q' () s₃) E' s₂) E' { s with heap := h, toks := tk })
    (hQ : ∀ h' tk N', Mv g (fun a => OwnC env a ∨ O a) s.heap h' → St g w N env h' (R l.length) → (∀ a, N a → N' a) → K N' l.length h' → Q .next { s with heap := h', toks := tk }) :
    wpAny (model prog w) A (exec (.For tgt iter body [] pos) env) Q E s := by
  refine wpAny_For (src A env N s _ E hs hr z fun h₁ t₁ I m₁ hI hI₁ hX => ?_) (hf env)
  obtain ⟨X, hit, hX0⟩ := hX (fun a => a = I) rfl fun a q => .inl q
  have z₁ : St g w (fun a => N a ∨ a = I) env h₁ ρ := z.new m₁ fun a q => ⟨q ▸ hI, q ▸ hI₁⟩
  have hIN : ¬ N I := z.cx.fresh hI
  have hIo : OffOwn g env I := ⟨fun o => hIN (z.ok.own I o).1, z.cx.baseFresh hI, fun t => hIN (z.cx.tabs I t)⟩
  refine codeAny_forLoop_any (fun n s' => ∃ h tk i, s' = { s with heap := h, toks := tk } ∧ n = l.length + 1 - i ∧ i ≤ l.length ∧ Mv g (fun a => (OwnC env a ∨ O a) ∨ a = I) h₁ h ∧ St g w (fun a => N a ∨ a = I) env h (R i) ∧ X i h ∧ K (fun a => N a ∨ a = I) i h) ?_ (l.length + 1)
    ⟨h₁, t₁, 0, rfl, rfl, Nat.zero_le _, .refl, z₁.weaken hR0, hX0, hK0 h₁ _ m₁ (fun a n => .inl n) fun a n => n.elim .inl fun q => .inr (q ▸ hI)⟩
  rintro n s' ⟨h, tk, i, rfl, rfl, hi, mv, z₂, hXi, hK⟩
  have keepN : ∀ {h₂ : Heap}, Off I h h₂ → ∀ b o, N b → h.get? b = some o → h₂.get? b = some o := fun off b o nb e => off b o (fun q => hIN (q ▸ nb)) e
  by_cases hil : i < l.length
  · obtain ⟨a, ha⟩ : ∃ a, l[i]? = some a := ⟨l[i], by simp [hil]⟩
    refine wpAny_mono (hit.step i (f a) { s with heap := h, toks := tk } (fun v' s' => ∃ h₂ t₂, s' = { s with heap := h₂, toks := t₂ } ∧ X (i + 1) h₂ ∧ Den w (fun a => N a ∨ a = I) h₂ (f a) v' ∧ Off I h h₂) _ (by simp [ha]) hXi fun h₂ t₂ v hX₂ dv off => ?_) (fun r s₁ hq => ?_) fun _ _ e => e
    · exact ⟨h₂, t₂, rfl, hX₂, dv, off⟩
    · obtain ⟨v, rfl, hq⟩ := hq
      show wpAny _ A (letOwnedTupleGo tgt (.ref I) v) _ _ _
      refine wpAny_mono hq (fun _ s₂ h₂ => ?_) fun _ _ e => e
      obtain ⟨h₂, t₂, rfl, hX₂, dv, off⟩ := h₂
      have m₂ : Mv g (fun a => a = I) h h₂ := .one off rfl hIo.2.2 (fun o e => by
        obtain ⟨o', e', so, _⟩ := hit.soft i h hXi
        rw [e] at e'; cases e'; exact so) (by obtain ⟨o', e', _⟩ := hit.soft _ _ hX₂; rw [e']; rfl)
      have z₃ : St g w (fun a => N a ∨ a = I) env h₂ (R i) := z₂.mv m₂ fun a q => ⟨.inr q, q ▸ hIo.2.1, q ▸ hIo.1⟩
      have hK₂ := hKs _ i h h₂ (fun a n => .inl n) hK (m₂.chg z₂.cx.tabs fun a q => .inr q) (keepN off)
      refine wpAny_mono (step i a (fun a => N a ∨ a = I) h₂ t₂ v (fun _ s₃ => ∃ m, m < l.length + 1 - i ∧ ∃ h tk i, s₃ = { s with heap := h, toks := tk } ∧ m = l.length + 1 - i ∧ i ≤ l.length ∧ Mv g (fun a => (OwnC env a ∨ O a) ∨ a = I) h₁ h ∧ St g w (fun a => N a ∨ a = I) env h (R i) ∧ X i h ∧ K (fun a => N a ∨ a = I) i h) _ ha (fun a n => .inl n) z₃ hK₂ dv fun h₄ t₄ m₄ z₄ hK₄ => ?_) (fun _ s₃ h₃ => ?_) fun _ _ e => e
      · refine ⟨l.length + 1 - (i + 1), by omega, h₄, t₄, i + 1, rfl, rfl, by omega, (mv.trans (m₂.mono fun a q => .inr q)).trans (m₄.mono fun a q => .inl q), z₄, ?_, hK₄⟩
        refine hit.frame _ _ _ hX₂ ?_ (m₄.chg z₂.cx.tabs fun a q => q.elim (fun o => .inl (z.ok.own a o.own).1) fun o => .inl (hO a o).1)
        obtain ⟨o', e', _⟩ := hit.soft _ _ hX₂
        rw [e']; exact m₄.keep _ _ e' (.inl ⟨hIo.2.2, fun q => q.elim (fun q => hIo.1 q.own) fun o => hIN (hO I o).1⟩)
      · refine wpAny_mono h₃ (fun fl s₄ h₄ => ?_) fun _ _ e => e
        obtain ⟨rfl, h₄⟩ := h₄
        exact h₄
  · have hil' : i = l.length := by omega
    subst hil'
    refine hit.done _ _ _ (by simpa using hXi) fun h₂ t₂ off => ?_
    have m₂ : MvX g (fun a => a = I) I h h₂ := .one off rfl hIo.2.2 (fun o e => by
        obtain ⟨o', e', so, _⟩ := hit.soft _ h hXi
        rw [e] at e'; cases e'; exact so)
    refine wpAny_execs_nil ?_
    have z₃ := (z₂.mvx m₂ (.inr rfl) hIo).sub (N := N) (fun a n => ⟨.inl n, fun q => hIN (q ▸ n)⟩) z.cx.mods z.cx.tabs fun a o => (z.ok.own a o).1
    refine hQ h₂ t₂ _ (MvX.fresh (O := fun a => OwnC env a ∨ O a) ((m₁.mono fun _ q => q.elim)) (MvX.after mv (m₂.mono fun a q => .inr q)) hI fun a q => q.elim .inl fun q => .inr (q ▸ hI)) z₃ (fun a n => .inl n)
      (hKs _ _ h h₂ (fun a n => .inl n) hK (m₂.chg z₂.cx.tabs fun a q => .inr q) (keepN off))

/-- a loop that changes only names -/
theorem RunN.for {α : Type} {l : List α} {f : α → PyData} {R R₁ : Nat → Rho} {xs : List Str} {tgt iter : Expr} (src : Src g prog w k sc ρ tgt iter (l.map f)) (hf : ∀ env x, foldedSetIterable iter env x = pure x)
    (hR0 : ∀ x d, (R 0).lookup x = some d → ρ.lookup x = some d) (hx : xs.all (storable sc) = true) (hb : ∀ i a, l[i]? = some a → BindR tgt (f a) (R i) (R₁ i) xs) (step : ∀ i a, l[i]? = some a → RunN g prog w k sc (R₁ i) body (R (i + 1))) :
    RunN g prog w k sc ρ [.For tgt iter body [] pos] (R l.length) := by
  refine .of_exec fun A env N s Q E hs hr z hQ => ?_
  refine for_run (K := fun _ _ _ => True) (O := noO) src hf hs hr z hR0 (fun a q => q.elim) (fun _ _ _ _ _ => trivial) (fun _ _ _ _ _ _ _ _ => trivial) (fun i a N' h tk v Q' E' ha hN z' _ dv hQ' => ?_) fun h' tk N' m z' _ _ => hQ h' tk (m.mono fun a q => q.elim id fun q => q.elim) z'
  refine assign_sound (hb i a ha) hs hr.handled (fun y hy => List.all_eq_true.mp hx y hy) (s := { s with heap := h, toks := tk }) z' dv fun h₂ t₂ m₂ z₂ => ?_
  refine step i a ha A env N' _ _ E' hs hr z₂ fun h₃ t₃ m₃ z₃ => ⟨rfl, hQ' h₃ t₃ ?_ z₃ trivial⟩
  exact (m₂.mono fun a o => .inl o.c).trans (m₃.mono fun a o => .inl o)
end
end Mine

namespace Mine
open Sem (wp)

section
variable {g : G} {prog : Program} {w : World} {k j : Nat} {sc : Scope} {φ φ₁ φ₂ φ₃ : Bool} {ρ ρ' ρ₁ ρ₂ : Rho} {N : Addr → Prop} {env : Env} {e l r test : Expr} {a b c d : PyData} {pos : Pos} {body rest orelse : List Stmt} {st : Stmt}

theorem binds_sound : ∀ {names : List Str} {vs : List Value} {ds : List PyData} {ρ : Rho} {A : Around} {s : Shared} {Q : PUnit → Shared → Prop} {E : Value → Shared → Prop}, env.scope = sc → (∀ x ∈ names, storable sc x = true) → names.length = ds.length → DenL w N s.heap ds vs → St g w N env s.heap ρ →
    (∀ h' tk, Mv g (OwnN env names) s.heap h' → St g w N env h' ((names.zip ds).reverse ++ ρ) → Q PUnit.unit { s with heap := h', toks := tk }) →
    wpAny (model prog w) A (forIn (names.zip vs) PUnit.unit fun x _ => do storeName env x.1 x.2; pure (ForInStep.yield PUnit.unit)) Q E s
  | [], vs, ds, ρ, A, s, Q, E, hs, hx, hl, dv, z, hQ => by
    cases ds with
    | nil => exact wpAny_pure (hQ s.heap s.toks .refl z)
    | cons d ds => simp at hl
  | x :: names, vs, ds, ρ, A, s, Q, E, hs, hx, hl, dv, z, hQ => by
    cases dv with
    | nil => simp at hl
    | @cons d v ds vs dd rr =>
      show wpAny _ _ (forIn ((x, v) :: names.zip vs) _ _) _ _ _
      rw [List.forIn_cons]
      refine wpAny_bind (wpAny_bind (store_sound hs (hx x (by simp)) z dd fun h₁ t₁ m₁ z₁ => wpAny_pure ?_))
      refine binds_sound hs (fun y m => hx y (List.mem_cons_of_mem _ m)) (by simpa using hl) (rr.chg (m₁.chg z.cx.tabs fun a o => (z.ok.own a o.own).1) fun _ _ n => n) z₁ fun h₂ t₂ m₂ z₂ => ?_
      refine hQ h₂ t₂ ((m₁.mono fun a o => o.mono fun y m => by simp at m; simp [m]).trans (m₂.mono fun a o => o.mono fun y m => List.mem_cons_of_mem _ m)) ?_
      simpa using z₂

/-- what a closure hands a function: its cells, and what lies in them -/
structure Clo (g : G) (w : World) (N : Addr → Prop) (h : Heap) (cl : List (Str × Addr)) (ρ : Rho) : Prop where
  cell : ∀ x c, cl.lookup x = some c → (∃ v, h.IsCell c v) ∧ N c ∧ g.base.get? c = none ∧ ¬ g.T c
  inj : ∀ x y c, cl.lookup x = some c → cl.lookup y = some c → x = y
  den : ∀ x d, ρ.lookup x = some d → ∃ c v, cl.lookup x = some c ∧ h.IsCell c (some v) ∧ Den w N h d v

/-- the scope of a function is in order -/
noncomputable def funOk (scope : Scope) (cl : List (Str × Addr)) : Bool :=
  scope.kind == .function && scope.names.all fun x => scope.names.lookup x.1 == some x.2 && (x.2 != .free || (cl.lookup x.1).isSome)

theorem funOk_at {scope : Scope} {cl : List (Str × Addr)} (h : funOk scope cl = true) : scope.kind = .function ∧ ∀ x kd, (x, kd) ∈ scope.names → scope.names.lookup x = some kd ∧ (kd = .free → ∃ c, cl.lookup x = some c) := by
  simp only [funOk, Bool.and_eq_true, List.all_eq_true, beq_iff_eq, Bool.or_eq_true, bne_iff_ne] at h
  refine ⟨h.1, fun x kd m => ?_⟩
  obtain ⟨h1, h2⟩ := h.2 (x, kd) m
  simp only at h1 h2
  refine ⟨h1, fun q => ?_⟩
  subst q
  exact Option.isSome_iff_exists.mp (by simpa using h2)

/-- a call of a function that was written with def, its body's run given -/
theorem call_fun {A : Around} {s : Shared} {R : Result → Shared → Prop} {f : Addr} {o : Obj} {fd : FuncData} {vs : List Value} {ds : List PyData} {names : List Str} {ρ₀ : Rho} {Ff : Flow → Shared → Prop} (hr : Room A (k + 1)) (cx : Cx g N s.heap)
    (ho : s.heap.get? f = some o) (hd : o.data = .func fd) (hbody : fd.body = .stmts body) (hcd : s.heap.CodeRec fd.code fd.qualname) (hglob : fd.globals = mainGlobals) (hblt : fd.builtins = builtinsNs)
    (hco : fd.scope.isCoroutine = false) (hgen : fd.scope.isGenerator = false) (hok : funOk fd.scope fd.closure = true)
    (hclo : Clo g w N s.heap fd.closure ρ₀) (hclf : ∀ x c, fd.closure.lookup x = some c → fd.scope.names.lookup x = some .free) (hρ₀ : ∀ x d, ρ₀.lookup x = some d → fd.scope.names.lookup x = some .free)
    (hbind : bindArgs fd ⟨vs, []⟩ = pure (names.zip vs)) (hlen : names.length = ds.length) (hx : names.all (storable fd.scope) = true) (dv : DenL w N s.heap ds vs)
    (hrun : ∀ (h₁ : Heap) (t₁ : Nat) (env : Env) (N' : Addr → Prop) (E : Value → Shared → Prop), env.scope = fd.scope → Room (A.deeper env) k → env.code = fd.code → env.qual = fd.qualname ++ ".<locals>." → St g w N' env h₁ ((names.zip ds).reverse ++ ρ₀) → (∀ x c, fd.scope.names.lookup x = some .free → fd.closure.lookup x = some c → env.cells.lookup x = some c) →
      Mv g noO s.heap h₁ → (∀ a, N a → N' a) → (∀ a, N' a → N a ∨ s.heap.get? a = none) → (∀ a, OwnC env a → s.heap.get? a = none) →
      wpAny (model prog w) (A.deeper env) (execs body env) (fun fl s' => R (.ok (.ret (match fl with | .ret v => v | _ => .none))) s') E { s with heap := h₁, toks := t₁ }) :
    codeAny (model prog w) A (.call (.ref f) ⟨vs, []⟩) R s := by
  obtain ⟨hkind, hnm⟩ := funOk_at hok
  refine codeAny_call_function (body := body) (by have := hr.depth; omega) ho hd hco hgen hbody hcd ?_
  rw [hbind]
  refine wpAny_pure ?_
  have hcellv : ∀ x c, fd.closure.lookup x = some c → ∃ v, s.heap.IsCell c v := fun x c e => (hclo.cell x c e).1
  refine newEnv_sound (g := g) hcellv hclo.inj fun h₁ cells hl => ?_
  generalize henv : newEnv fd.scope s.heap.objs.size fd.globals cells (fd.qualname ++ ".<locals>.") (some f) fd.code none fd.builtins = env
  have e1 : env.scope = fd.scope := by rw [← henv]; rfl
  have e2 : env.locals = s.heap.objs.size := by rw [← henv]; rfl
  have e3 : env.globals = mainGlobals := by rw [← henv]; exact hglob
  have e4 : env.builtins = builtinsNs := by rw [← henv]; exact hblt
  have e5 : env.cells = cells := by rw [← henv]; rfl
  have hfr : ∀ x, fd.scope.names.lookup x = some .free → ∀ k ∈ fd.scope.names, k.1 = x → k.2 ≠ .cell := fun x e k mk ek q => by
    have := (hnm k.1 k.2 mk).1
    rw [ek, e, q] at this; cases this
  have z₁ : St g w (fun a => N a ∨ (s.heap.get? a = none ∧ Own env a)) env h₁ ρ₀ := by
    refine hl.st cx (fun x c e => (hclo.cell x c e).2) hcellv (by rw [e1]; exact hkind) e3 e4 e2 e5 (fun x q => ?_) fun x d e => ?_
    · unfold Env.kindOf at q
      rw [e1] at q
      rcases q with q | q
      · exact .inl (lookup_mem' q)
      · exact .inr ⟨hfr x q, (hnm x .free (lookup_mem' q)).2 rfl⟩
    · obtain ⟨c, v, q1, q2, q3⟩ := hclo.den x d e
      have q := hρ₀ x d e
      refine ⟨.inr ?_, hfr x q, c, v, q1, q2, q3⟩
      unfold Env.kindOf; rw [e1]; exact q
  have dv' : DenL w (fun a => N a ∨ (s.heap.get? a = none ∧ Own env a)) h₁ ds vs := by
    refine dv.chg (.of hl.keep) fun a ha q => q.elim id fun q => ?_
    rw [q.1] at ha; cases ha
  have hown : ∀ a, OwnC env a → s.heap.get? a = none := fun a o => by
    rcases o with rfl | ⟨x, kx, e⟩
    · rw [e2]; exact hl.fresh
    · rw [e5] at e
      rcases hl.cok.each x a e with q | ⟨q, _⟩
      · unfold Env.kindOf at kx
        rw [e1, hclf x a q] at kx; cases kx
      · exact q
  refine binds_sound e1 (fun x m => List.all_eq_true.mp hx x m) hlen (s := { s with heap := h₁ }) dv' z₁ fun h₂ t₂ m₂ z₂ => ⟨z₂.cx.lim, ?_⟩
  refine codeAny_func ?_
  have hr' : Room (A.deeper env) k := ⟨hr.handled, by have := hr.depth; show A.depth + 1 + k + 1 ≤ _; omega, by have := hr.units; show A.units + 3 + 3 * k + 200 ≤ _; omega⟩
  refine hrun h₂ t₂ env _ _ e1 hr' (by rw [← henv]; rfl) (by rw [← henv]; rfl) z₂ (fun x c q1 q2 => ?_) (hl.mv.fresh m₂ fun a o => ?_) (fun a n => .inl n) (fun a n => n.elim .inl fun q => .inr q.1) hown
  · rw [e5, hl.cok.old x (hfr x q1)]; exact q2
  · rcases o with o | ⟨x, mx, q1, q2⟩
    · rw [e2] at o; exact .inr (o ▸ hl.fresh)
    · rw [e5] at q2
      rcases hl.cok.each x a q2 with q | ⟨q, _⟩
      · unfold Env.kindOf at q1
        rw [e1, hclf x a q] at q1; cases q1
      · exact .inr q

theorem Clo.none {h : Heap} : Clo g w N h [] [] := ⟨fun x c e => by simp at e, fun x y c e => by simp at e, fun x d e => by simp at e⟩

/-- a function without a closure, whose body returns -/
theorem Fn.ofDef {f : Addr} {o : Obj} {name : Str} {params : Arguments} {scope : Scope} {pm cd doc : Value} {ds : List PyData} {names : List Str} (ho : g.base.get? f = some o) (hd : o.data = .func (Calls.docDef name params body scope pm cd doc)) (hcd : g.base.CodeRec cd name)
    (hco : scope.isCoroutine = false) (hgen : scope.isGenerator = false) (hok : funOk scope [] = true) (hbind : ∀ vs : List Value, vs.length = ds.length → bindArgs (Calls.docDef name params body scope pm cd doc) ⟨vs, []⟩ = pure (names.zip vs))
    (hlen : names.length = ds.length) (hx : names.all (storable scope) = true) (x : RunR g prog w k scope φ (names.zip ds).reverse body d) : Fn g prog w (k + 1) φ (.ref f) ds d := by
  intro A N s vs Q E hr c dv hQ
  refine wpAny_call (call_fun (k := k) (ρ₀ := []) (names := names) (ds := ds) (Ff := fun _ _ => True) hr c (c.glo _ _ ho) hd rfl ?_ rfl rfl hco hgen hok Clo.none (fun x c e => by simp [Calls.docDef] at e) (fun x d e => by simp at e) (hbind vs dv.length.symm) hlen hx dv fun h₁ t₁ env N' E' hs hr' _ _ z' _ m₁ hN hN' hown => ?_)
  · obtain ⟨c', o', vs', t', q1, q2, q3⟩ := hcd
    exact ⟨c', o', vs', t', q1, c.glo _ _ q2, q3⟩
  · refine x (A.deeper env) env N' { s with heap := h₁, toks := t₁ } _ E' hs hr' (by simpa using z') fun h₂ t₂ v m₂ d₂ => ?_
    exact hQ h₂ t₂ v (m₁.fresh m₂ fun a o => .inr (hown a o)) (d₂.weaken fun a _ n => n.elim (fun n => .inl (hN a n)) fun q => .inr ⟨q.1, m₁.live a q.2⟩)

/-- a global name that is a function of the module -/
structure FName (g : G) (sc : Scope) (x : Str) (f : Addr) : Prop where
  hit : g.mg x = some (.ref f)
  fd : ∃ o fd, g.base.get? f = some o ∧ o.data = .func fd
  kind : sc.names.lookup x = some .globalImplicit

theorem Ev.fnF {x : Str} {f : Addr} {np : Pos} {es : List Expr} {ds : List PyData} (b : FName g sc x f) (y : EvL g prog w k sc φ₁ ρ (e :: es) ds) (ff : Fn g prog w k φ (.ref f) ds d) (hd : (x == ("__debug__" : Str)) = false := by decide)
    (he : ∀ env, starEach (e :: es) env = (false, eval e env) :: starEach es env := by intro _; rfl) : Ev g prog w k sc φ ρ (.Call (.Name x np) (e :: es) [] pos) d := by
  intro A env N s Q E hs hr z hQ
  obtain ⟨o, fd, ho, hdd⟩ := b.fd
  refine call_open (Calls.Name_function_global z.ok.kind (by unfold Env.kindOf; rw [hs]; exact b.kind) (Calls.loadGlobal_global (mg := g.mg) (by rw [z.ok.glob]; exact z.cx.nsG) b.hit ?_) hd)
  have y' := y A env N s pos (fun vs s₁ => s₁.heap.get? f = some o ∧ wpAny (model prog w) A (call (.ref f) vs) Q E s₁) E hs hr z fun h₁ t₁ vs m₁ d₁ => ⟨(z.gr m₁).cx.glo _ _ ho, ff A N _ vs Q E hr (z.gr m₁).cx (d₁.weaken fun a _ n => .inl n) fun h₂ t₂ r m₂ d₂ => hQ h₂ t₂ r (m₁.trans m₂) (d₂.weaken fun a _ n => n.elim .inl fun q => .inr ⟨q.1, m₁.live a q.2⟩)⟩
  rw [he env] at y' ⊢
  exact Calls.callWith_function (o := o) (fd := fd) (Calls.evalArgs_plain (wpAny_mono y' (fun vs s₁ h₁ => ⟨⟨h₁.1, hdd⟩, h₁.2⟩) fun _ _ x => x))
end
end Mine

namespace Mine
open Sem (wp)

/-- data for a reference that stands for itself -/
noncomputable abbrev refD (a : Addr) : PyData := .dict [(.none, .int (a : Int))]

section
variable {g : G} {prog : Program} {w : World} {k j : Nat} {sc : Scope} {φ φ₁ φ₂ φ₃ : Bool} {ρ ρ' ρ₁ ρ₂ : Rho} {N : Addr → Prop} {env : Env} {e l r test : Expr} {a b c d : PyData} {pos : Pos} {body rest orelse : List Stmt} {st : Stmt}

theorem Den.refEq {h : Heap} {a : Addr} {v : Value} (x : Den w N h (refD a) v) : v = .ref a := by
  generalize hd : refD a = d at x
  cases x <;> simp only [refD, reduceCtorEq, PyData.dict.injEq] at hd
  · subst hd
    rename_i n e r nd
    have := DenE.allKeys r _ (List.mem_singleton.mpr rfl); simp [isKey] at this
  · simp only [List.cons.injEq, Prod.mk.injEq, PyData.int.injEq, true_and, and_true] at hd
    have : a = _ := Int.ofNat.inj hd
    rw [this]

/-- x = e, where e gives something new -/
theorem assign_new {x : Str} {npos : Pos} {D : PyData} {A : Around} {s : Shared} {Q : Flow → Shared → Prop} {E : Value → Shared → Prop} (xe : Ev g prog w k sc true ρ e D) (hD : ∀ M h v, Den w M h D v → ∃ a, v = .ref a) (hst : storable sc x = true)
    (hs1 : ∀ env, env.scope = sc → swapsWithSole [.Name x npos] e pos.line env = pure false) (hw : ∀ env, env.scope = sc → swappedStores [.Name x npos] e env = pure none) (hs : env.scope = sc) (hr : Room A k) (z : St g w N env s.heap ρ)
    (hQ : ∀ h₁ a, Mv g noO s.heap h₁ → Den w (fun b => N b ∨ (s.heap.get? b).isSome) h₁ D (.ref a) → ∃ O : Addr → Prop, (∀ b, O b → s.heap.get? b = none ∧ (h₁.get? b).isSome) ∧
      ∀ h' tk, Mv g (OwnC env) s.heap h' → Mv g (OwnN env [x]) h₁ h' → St g w (fun b => N b ∨ O b) env h' ((x, refD a) :: ρ) → Q .next { s with heap := h', toks := tk }) :
    wpAny (model prog w) A (exec (.Assign [.Name x npos] e pos) env) Q E s := by
  rw [exec_Assign, hs1 env hs]
  refine wpAny_bind (wpAny_standAt (wpAny_bind (wpAny_pure ?_)))
  rw [if_neg (by decide)]
  refine wpAny_bind (xe A env N s _ E hs hr z fun h₁ t₁ v m₁ d₁ => ?_)
  rw [hw env hs]
  refine wpAny_bind (wpAny_pure ?_)
  show wpAny _ A (do assignAll v [PySem.assign (.Name x npos) env]; pure .next) Q E _
  refine wpAny_bind ?_
  show wpAny _ A (PySem.assign (.Name x npos) env v) _ E _
  obtain ⟨a, rfl⟩ := hD _ _ _ d₁
  obtain ⟨O, hO, hq⟩ := hQ h₁ a m₁ (d₁.weaken fun a _ n => n.elim .inl fun q => .inr ⟨rfl, q⟩)
  have z₁ : St g w (fun b => N b ∨ O b) env h₁ ρ := z.new m₁ hO
  refine wpAny_assign_Name (store_sound (d := refD a) (s := { s with heap := h₁, toks := t₁ }) hs hst z₁ (.opn a) fun h₂ t₂ m₂ z₂ => wpAny_pure ?_)
  exact hq h₂ t₂ ((m₁.mono fun _ q => q.elim).trans (m₂.mono fun a o => o.c)) m₂ z₂

theorem DictAtD.mv {O : Addr → Prop} {h h' : Heap} {d : Addr} {kvs : List (PyData × PyData)} {es : List DictEntry} {n : Nat} (x : DictAtD w N h d kvs es n) (m : Mv g O h h') (hT : ∀ a, g.T a → N a) (hO : ∀ a, O a → N a) (hd : ¬ g.T d ∧ ¬ O d) : DictAtD w N h' d kvs es n :=
  ⟨m.keep _ _ x.1 (.inl hd), x.2.1.chg (m.chg hT hO) fun _ _ n => n, x.2.2⟩
theorem dict_soft {h : Heap} {d : Addr} {es : Array DictEntry} {n : Nat} (e : h.get? d = some ⟨.type "dict", none, .dict es n, #[]⟩) : ∀ o, h.get? d = some o → ¬ TupObj o ∧ ¬ CodeObj o := fun o q => by
  rw [e] at q; cases q
  exact ⟨fun t => absurd t.1 (by simp), fun t => absurd t.1 (by simp)⟩

theorem keyRef {k : PyData} {M : Addr → Prop} {h : Heap} {v : Value} (ik : isKey k = true) (x : Den w M h k v) : ∃ a, v = .ref a := by
  cases k <;> simp [isKey] at ik
  exact x.tupRef

/-- o[i] = e, o an opened dict -/
theorem set_dict {o i : Expr} {spos : Pos} {kd dv : PyData} {d : Addr} {kvs : List (PyData × PyData)} {es : List DictEntry} {n : Nat} {A : Around} {s : Shared} {Q : Flow → Shared → Prop} {E : Value → Shared → Prop}
    (xe : Ev g prog w k sc φ ρ e dv) (xo : Ev g prog w k sc φ₁ ρ o (refD d)) (xi : Ev g prog w k sc φ₂ ρ i kd) (ik : isKey kd = true) (hs : env.scope = sc) (hr : Room A k) (z : St g w N env s.heap ρ) (hN : N d) (ho : OffOwn g env d)
    (hat : DictAtD w N s.heap d kvs es n) (hsz : kvs.length ≤ sizeLine) (hsw : ∀ env, swapsWith e (some (.Subscript o i spos)) pos.line env = pure false)
    (hQ : ∀ h' tk es' n', Mv g (fun b => b = d) s.heap h' → St g w N env h' ρ → DictAtD w N h' d (putD kvs kd dv) es' n' → Q .next { s with heap := h', toks := tk }) :
    wpAny (model prog w) A (exec (.Assign [.Subscript o i spos] e pos) env) Q E s := by
  refine wpAny_Assign_Subscript (xe A env N s _ E hs hr z fun h₁ t₁ v m₁ d₁ => xo A env N { s with heap := h₁, toks := t₁ } _ E hs hr (z.gr m₁) fun h₂ t₂ ov m₂ d₂ =>
    xi A env N { s with heap := h₂, toks := t₂ } _ E hs hr ((z.gr m₁).gr m₂) fun h₃ t₃ iv m₃ d₃ => ?_) (hsw env)
  cases d₂.refEq
  obtain ⟨p, rfl⟩ := keyRef ik d₃
  have hT := z.cx.tabs
  have hat' : DictAtD w N h₃ d kvs es n := ((hat.mv m₁ hT (fun _ q => q.elim) ⟨ho.2.2, id⟩).mv m₂ hT (fun _ q => q.elim) ⟨ho.2.2, id⟩).mv m₃ hT (fun _ q => q.elim) ⟨ho.2.2, id⟩
  have dv' : Den w N h₃ dv v := (den_plain d₁).chg ((m₂.trans m₃).chg hT fun _ q => q.elim) fun _ _ n => n
  refine setItem_den hr.u80 hN hat' ik d₃ dv' hsz fun h₄ t₄ es' n' hat₄ hsb c => ?_
  have m₄ : Mv g (fun b => b = d) h₃ h₄ := .one hsb.extBut rfl ho.2.2 (dict_soft hat'.1) (by rw [hat₄.1]; rfl)
  have m13 : Mv g noO s.heap h₃ := (m₁.trans m₂).trans m₃
  exact hQ h₄ t₄ es' n' ((m13.mono fun _ q => q.elim).trans m₄) ((z.gr m13).mv m₄ fun a q => ⟨q ▸ hN, q ▸ ho.2.1, q ▸ ho.1⟩) hat₄

/-- o[x] += e, o an opened dict of ints -/
theorem aug_dict {o : Expr} {x : Str} {xpos spos : Pos} {kd : PyData} {u v : Int} {d : Addr} {kvs : List (PyData × PyData)} {es : List DictEntry} {n : Nat} {A : Around} {s : Shared} {Q : Flow → Shared → Prop} {E : Value → Shared → Prop}
    (xe : Ev g prog w k sc φ ρ e (.int v)) (xo : Ev g prog w k sc φ₁ ρ o (refD d)) (xi : Ev g prog w k sc φ₂ ρ (.Name x xpos) kd) (ik : isKey kd = true) (hl : lookD kvs kd = some (.int u)) (hs : env.scope = sc) (hr : Room A k) (z : St g w N env s.heap ρ) (hN : N d) (ho : OffOwn g env d)
    (hat : DictAtD w N s.heap d kvs es n) (hsz : kvs.length ≤ sizeLine)
    (hQ : ∀ h' tk es' n', Mv g (fun b => b = d) s.heap h' → St g w N env h' ρ → DictAtD w N h' d (putD kvs kd (.int (u + v))) es' n' → Q .next { s with heap := h', toks := tk }) :
    wpAny (model prog w) A (exec (.AugAssign (.Subscript o (.Name x xpos) spos) .Add e pos) env) Q E s := by
  refine wpAny_AugAssign_Subscript (xo A env N s _ E hs hr z fun h₁ t₁ ov m₁ d₁ => xi A env N { s with heap := h₁, toks := t₁ } _ E hs hr (z.gr m₁) fun h₂ t₂ iv m₂ d₂ => ?_)
  cases d₁.refEq
  obtain ⟨p, rfl⟩ := keyRef ik d₂
  have hT := z.cx.tabs
  have hat₂ : DictAtD w N h₂ d kvs es n := (hat.mv m₁ hT (fun _ q => q.elim) ⟨ho.2.2, id⟩).mv m₂ hT (fun _ q => q.elim) ⟨ho.2.2, id⟩
  refine getItemAt_den hr.u80 hat₂ ik d₂ hl fun ov t₃ dov => ?_
  cases dov
  refine xe A env N { s with heap := h₂, toks := t₃ } _ E hs hr ((z.gr m₁).gr m₂) fun h₄ t₄ w' m₄ d₄ => ?_
  cases d₄
  refine PySem.P.iadd_int ?_
  have hat₄ : DictAtD w N h₄ d kvs es n := hat₂.mv m₄ hT (fun _ q => q.elim) ⟨ho.2.2, id⟩
  have d₂' := Den.keyMove (N' := N) (isKey_keyB ik) d₂ fun b o e t => m₄.keep b o e (.inr t)
  refine setItem_den hr.u80 hN hat₄ ik d₂' (.int (u + v) _) hsz fun h₅ t₅ es' n' hat₅ hsb c => ?_
  have m₅ : Mv g (fun b => b = d) h₄ h₅ := .one hsb.extBut rfl ho.2.2 (dict_soft hat₄.1) (by rw [hat₅.1]; rfl)
  have m14 : Mv g noO s.heap h₄ := (m₁.trans m₂).trans m₄
  exact hQ h₅ t₅ es' n' ((m14.mono fun _ q => q.elim).trans m₅) ((z.gr m14).mv m₅ fun a q => ⟨q ▸ hN, q ▸ ho.2.1, q ▸ ho.1⟩) hat₅

/-- x in o, o an opened dict -/
theorem test_in {o x : Expr} {kd : PyData} {d : Addr} {kvs : List (PyData × PyData)} {es : List DictEntry} {n : Nat} {A : Around} {s : Shared} {Q : Bool → Shared → Prop} {E : Value → Shared → Prop}
    (xx : Ev g prog w k sc φ ρ x kd) (xo : Ev g prog w k sc φ₁ ρ o (refD d)) (ik : isKey kd = true) (hs : env.scope = sc) (hr : Room A k) (z : St g w N env s.heap ρ) (hN : N d) (hd : d ≠ sysModules) (ho : OffOwn g env d)
    (hat : DictAtD w N s.heap d kvs es n) (hQ : ∀ h' tk, Mv g noO s.heap h' → Q (lookD kvs kd).isSome { s with heap := h', toks := tk }) (hm : behindInMarks .In o = false := by rfl) :
    wpAny (model prog w) A (isTrue (.Compare x [.In] [o] pos) env (eval (.Compare x [.In] [o] pos) env)) Q E s := by
  refine wpAny_isTrue_Compare1 (xx A env N s _ E hs hr z fun h₁ t₁ v m₁ d₁ => xo A env N { s with heap := h₁, toks := t₁ } _ E hs hr (z.gr m₁) fun h₂ t₂ ov m₂ d₂ => ?_) hm
  cases d₂.refEq
  obtain ⟨p, rfl⟩ := keyRef ik d₁
  have hT := z.cx.tabs
  have hat₂ : DictAtD w N h₂ d kvs es n := (hat.mv m₁ hT (fun _ q => q.elim) ⟨ho.2.2, id⟩).mv m₂ hT (fun _ q => q.elim) ⟨ho.2.2, id⟩
  have d₁' := Den.keyMove (N' := N) (isKey_keyB ik) d₁ fun b o e t => m₂.keep b o e (.inr t)
  exact in_den hr.u80 (beq_eq_false_iff_ne.mpr hd) hat₂ ik d₁' fun t₃ => wpAny_truthy_bool (hQ h₂ t₃ (m₁.trans m₂))

/-- isinstance(x, tuple) of an int -/
theorem Tr.notTuple {np tp : Pos} {e : Expr} {i : Int} (b : BName g sc "isinstance" (.builtin "isinstance")) (bt : BName g sc "tuple" (.type "tuple")) (xe : Ev g prog w k sc φ ρ e (.int i))
    (he : ∀ env, starEach [e, .Name "tuple" tp] env = [(false, eval e env), (false, eval (.Name "tuple" tp) env)] := by intro _; rfl) : Tr g prog w k sc ρ (.Call (.Name "isinstance" np) [e, .Name "tuple" tp] [] pos) false := by
  intro A env N s Q E hs hr z hQ
  refine wpAny_isTrue_value (call_open (b.use hs z (Calls.callWith_builtin ?_ ?_))) rfl
  · rw [he]; rfl
  · rw [he]
    refine Calls.evalArgs_plain (Calls.spliced_cons (xe A env N s _ E hs hr z fun h₁ t₁ v m₁ d₁ => Calls.spliced_cons (bt.use hs (s := { s with heap := h₁, toks := t₁ }) (z.gr m₁) (Calls.spliced_nil ?_))))
    cases d₁
    exact IsiPair.int_tuple (wpAny_truthy_bool (hQ h₁ _ m₁))
end
end Mine

namespace Mine

noncomputable abbrev thePW : Program := PySem.Challenge.pw_ic0002_01
noncomputable def stm (i : Nat) : Stmt := thePW.main.body.getD i (.Pass ⟨0, 0, 0, 0⟩)
noncomputable def fBody : Stmt → List Stmt
  | .FunctionDef (body := b) .. => b
  | _ => []
noncomputable def fScope (dflt : Scope) : Stmt → Scope
  | .FunctionDef (scope := s) .. => s
  | _ => dflt
noncomputable def fArgs (dflt : Arguments) : Stmt → Arguments
  | .FunctionDef (args := a) .. => a
  | _ => dflt
noncomputable abbrev scp (i : Nat) : Scope := fScope thePW.main.scope (stm i)
end Mine

namespace Mine
open Sem (wp)

/-- a table of counts -/
noncomputable def tabKV (t : List (PyData × Int)) : List (PyData × PyData) := t.map fun p => (p.1, .int p.2)
noncomputable def tabD (t : List (PyData × Int)) : PyData := .dict (tabKV t)
noncomputable def tabOk (t : List (PyData × Int)) : Prop := (∀ p ∈ t, isKey p.1 = true) ∧ (t.map (·.1)).Nodup

section
variable {g : G} {prog : Program} {w : World} {k j : Nat} {sc : Scope} {φ φ₁ φ₂ φ₃ : Bool} {ρ ρ' ρ₁ ρ₂ : Rho} {N : Addr → Prop} {env : Env}

theorem tab_open {t : List (PyData × Int)} (h : ∀ p ∈ t, isKey p.1 = true) : notOpen (tabKV t) = true := notOpen_keys fun p m => by
  obtain ⟨q, mq, rfl⟩ := List.mem_map.mp m
  exact h q mq

noncomputable def totT (t : List (PyData × Int)) : Int := (t.map (·.2)).sum

theorem Src.eq {tgt e : Expr} {ds ds' : List PyData} (h : ds = ds') (x : Src g prog w k sc ρ tgt e ds) : Src g prog w k sc ρ tgt e ds' := h ▸ x

theorem subNil : ∀ (x : Str) (d : PyData), List.lookup x ([] : Rho) = some d → List.lookup x ρ = some d := fun x d h => by simp at h
theorem subCons {x : Str} {d : PyData} (h : ρ.lookup x = some d) (s : ∀ (y : Str) (e : PyData), List.lookup y ρ₁ = some e → List.lookup y ρ = some e) : ∀ (y : Str) (e : PyData), List.lookup y ((x, d) :: ρ₁) = some e → List.lookup y ρ = some e := fun y e q => by
  rw [List.lookup_cons] at q
  cases b : y == x with
  | true => rw [b] at q; cases q; rw [eq_of_beq b]; exact h
  | false => rw [b] at q; exact s y e q
theorem totT_succ {t : List (PyData × Int)} {i : Nat} {a : PyData × Int} (h : t[i]? = some a) : totT (t.take (i + 1)) = totT (t.take i) + a.2 := by
  unfold totT
  rw [List.take_add_one, h]
  simp

theorem count_run {t : List (PyData × Int)} (h : ∀ p ∈ t, isKey p.1 = true) : RunR g prog w k (scp 2) φ [("callers", tabD t)] (fBody (stm 2)) (.int (totT t)) := by
  refine RunR.seq (ρ₁ := [("nc", .int 0), ("callers", tabD t)]) (RunN.assign (φ := false) .int .name (by decide) (fun _ _ => rfl) (fun _ _ => rfl)) ?_
  refine RunR.seq (RunN.for (l := t) (f := fun p => PyData.int p.2) (R := fun i => [("nc", .int (totT (t.take i))), ("callers", tabD t)])
    (R₁ := fun i => [("calls", .int ((t.map (·.2)).getD i 0)), ("nc", .int (totT (t.take i))), ("callers", tabD t)]) (xs := ["calls"])
    (Src.eq (by simp [valuesD, tabKV]) (Src.values (kvs := tabKV t) (Ev.name rfl) (tab_open h))) (fun _ _ => rfl) (fun x d q => by simpa [totT] using q) (by decide) (fun i a ha => ?_) (fun i a ha => ?_)) ?_
  · have : (t.map (·.2)).getD i 0 = a.2 := by simp [ha]
    simp only [this]
    exact .name
  · have : (t.map (·.2)).getD i 0 = a.2 := by simp [ha]
    simp only [this]
    exact (RunN.aug (i := totT (t.take i)) (j := a.2) rfl (Ev.name rfl) (by decide)).weakTo (subCons (by rw [totT_succ ha]; rfl) (subCons rfl subNil))
  · exact RunR.ret (Ev.flat (Ev.name (by rw [List.take_length]; rfl)) rfl)

/-! one more of a key -/
noncomputable def bumpT : List (PyData × Int) → PyData → List (PyData × Int)
  | [], k => [(k, 1)]
  | (k', n) :: r, k => if PyData.eqv k' k then (k', n + 1) :: r else (k', n) :: bumpT r k

theorem putD_last {kvs : List (PyData × PyData)} {k d : PyData} (hk : isKey k = true) (h : ∀ p ∈ kvs, isKey p.1 = true) (hn : k ∉ kvs.map (·.1)) : putD kvs k d = kvs ++ [(k, d)] := by
  induction kvs with
  | nil => rfl
  | cons p r ih =>
    obtain ⟨k', d'⟩ := p
    simp only [List.map_cons, List.mem_cons, not_or] at hn
    rw [putD, if_neg (fun z => hn.1 ((eqv_iff (h _ (List.mem_cons_self ..)) hk).mp z).symm), ih (fun p m => h p (List.mem_cons_of_mem _ m)) hn.2]
    rfl

theorem tab_copy {t : List (PyData × Int)} {i : Nat} {a : PyData × Int} (ht : tabOk t) (ha : t[i]? = some a) : putD (tabKV (t.take i)) a.1 (.int a.2) = tabKV (t.take (i + 1)) := by
  have hm : a ∈ t := List.mem_of_getElem? ha
  rw [List.take_add_one, ha]
  simp only [Option.toList_some, tabKV, List.map_append, List.map_cons, List.map_nil]
  refine putD_last (ht.1 a hm) (fun p m => ?_) fun m => ?_
  · obtain ⟨q, mq, rfl⟩ := List.mem_map.mp m
    exact ht.1 q (List.mem_of_mem_take mq)
  · rw [List.map_map, show ((fun x : PyData × PyData => x.1) ∘ fun p : PyData × Int => (p.1, PyData.int p.2)) = fun p : PyData × Int => p.1 from rfl] at m
    have nd := ht.2
    have e : t.map (·.1) = (t.take i).map (·.1) ++ (t.drop i).map (·.1) := by rw [← List.map_append, List.take_append_drop]
    rw [e, List.nodup_append] at nd
    have h2 : a.1 ∈ (t.drop i).map (·.1) := by
      refine List.mem_map.mpr ⟨a, ?_, rfl⟩
      have : (t.drop i)[0]? = some a := by rw [List.getElem?_drop]; simpa using ha
      exact List.mem_of_getElem? this
    exact nd.2.2 a.1 m a.1 h2 rfl

theorem bump_new {t : List (PyData × Int)} {k : PyData} (h : lookD (tabKV t) k = none) : putD (tabKV t) k (.int 1) = tabKV (bumpT t k) := by
  induction t with
  | nil => rfl
  | cons p r ih =>
    obtain ⟨k', n⟩ := p
    simp only [tabKV, List.map_cons, lookD] at h
    simp only [tabKV, List.map_cons, putD, bumpT]
    by_cases q : PyData.eqv k' k = true
    · rw [if_pos q] at h; cases h
    · rw [if_neg q] at h
      rw [if_neg q, if_neg q]
      simp only [List.map_cons, List.cons.injEq, true_and]
      exact ih h
theorem bump_old {t : List (PyData × Int)} {k : PyData} {u : Int} (h : lookD (tabKV t) k = some (.int u)) : putD (tabKV t) k (.int (u + 1)) = tabKV (bumpT t k) := by
  induction t with
  | nil => simp [tabKV, lookD] at h
  | cons p r ih =>
    obtain ⟨k', n⟩ := p
    simp only [tabKV, List.map_cons, lookD] at h
    simp only [tabKV, List.map_cons, putD, bumpT]
    by_cases q : PyData.eqv k' k = true
    · rw [if_pos q] at h; cases h
      rw [if_pos q, if_pos q]; rfl
    · rw [if_neg q] at h
      rw [if_neg q, if_neg q]
      simp only [List.map_cons, List.cons.injEq, true_and]
      exact ih h
theorem look_int {t : List (PyData × Int)} {k d : PyData} (h : lookD (tabKV t) k = some d) : ∃ u, d = .int u := by
  induction t with
  | nil => simp [tabKV, lookD] at h
  | cons p r ih =>
    obtain ⟨k', n⟩ := p
    simp only [tabKV, List.map_cons, lookD] at h
    by_cases q : PyData.eqv k' k = true
    · rw [if_pos q] at h; cases h; exact ⟨n, rfl⟩
    · rw [if_neg q] at h; exact ih h

theorem bump_keys {t : List (PyData × Int)} {k : PyData} (ht : tabOk t) (hk : isKey k = true) : tabOk (bumpT t k) := by
  obtain ⟨h1, h2⟩ := ht
  have key : ∀ (t : List (PyData × Int)), (∀ p ∈ t, isKey p.1 = true) → ((bumpT t k).map (·.1) = t.map (·.1) ∧ k ∈ t.map (·.1)) ∨ ((bumpT t k).map (·.1) = t.map (·.1) ++ [k] ∧ k ∉ t.map (·.1)) := by
    intro t
    induction t with
    | nil => intro _; right; simp [bumpT]
    | cons p r ih =>
      intro h
      obtain ⟨k', n⟩ := p
      have hk' := h (k', n) (List.mem_cons_self ..)
      by_cases q : PyData.eqv k' k = true
      · left
        have := (eqv_iff hk' hk).mp q
        subst this
        simp [bumpT, q]
      · have hne : k' ≠ k := fun z => q ((eqv_iff hk' hk).mpr z)
        rcases ih fun p m => h p (List.mem_cons_of_mem _ m) with ⟨e, m⟩ | ⟨e, m⟩
        · left; exact ⟨by simp only [bumpT, if_neg q, List.map_cons, e], List.mem_cons_of_mem _ m⟩
        · right; exact ⟨by simp only [bumpT, if_neg q, List.map_cons, e]; simp, fun z => (List.mem_cons.mp z).elim (fun z => hne z.symm) m⟩
  have mem : ∀ p ∈ (bumpT t k).map (·.1), isKey p = true := by
    rcases key t h1 with ⟨e, m⟩ | ⟨e, m⟩
    · rw [e]; intro p mp; obtain ⟨q, mq, rfl⟩ := List.mem_map.mp mp; exact h1 q mq
    · rw [e]; intro p mp
      rcases List.mem_append.mp mp with mp | mp
      · obtain ⟨q, mq, rfl⟩ := List.mem_map.mp mp; exact h1 q mq
      · simp at mp; rw [mp]; exact hk
  refine ⟨fun p m => mem p.1 (List.mem_map.mpr ⟨p, m, rfl⟩), ?_⟩
  rcases key t h1 with ⟨e, m⟩ | ⟨e, m⟩
  · rw [e]; exact h2
  · rw [e, List.nodup_append]
    refine ⟨h2, by simp, ?_⟩
    intro a ha b hb q
    simp at hb
    exact m (by rw [← hb, ← q]; exact ha)
theorem bump_len {t : List (PyData × Int)} {k : PyData} : (bumpT t k).length ≤ t.length + 1 := by
  induction t with
  | nil => simp [bumpT]
  | cons p r ih =>
    obtain ⟨k', n⟩ := p
    simp only [bumpT]
    split <;> simp <;> omega
end
end Mine

namespace Mine
open Sem (wp)

section
variable {g : G} {prog : Program} {w : World} {k j : Nat} {sc : Scope} {φ φ₁ φ₂ φ₃ : Bool} {ρ ρ' ρ₁ ρ₂ : Rho} {N : Addr → Prop} {env : Env}

theorem Ev.run {e : Expr} {d : PyData} (x : Ev g prog w k sc φ ρ e d) {A : Around} {s : Shared} {Q E : Value → Shared → Prop} (hs : env.scope = sc) (hr : Room A k) (z : St g w N env s.heap ρ)
    (hQ : ∀ h' tk v, Mv g noO s.heap h' → Den w (fun a => N a ∨ (φ = true ∧ (s.heap.get? a).isSome)) h' d v → Q v { s with heap := h', toks := tk }) : wpAny (model prog w) A (eval e env) Q E s := x A env N s Q E hs hr z hQ
theorem Tr.run {e : Expr} {b : Bool} (x : Tr g prog w k sc ρ e b) {A : Around} {s : Shared} {Q : Bool → Shared → Prop} {E : Value → Shared → Prop} (hs : env.scope = sc) (hr : Room A k) (z : St g w N env s.heap ρ)
    (hQ : ∀ h' tk, Mv g noO s.heap h' → Q b { s with heap := h', toks := tk }) : wpAny (model prog w) A (isTrue e env (eval e env)) Q E s := x A env N s Q E hs hr z hQ
theorem DenE.flatE {M : Addr → Prop} {h : Heap} : ∀ {kvs : List (PyData × PyData)} {es : List DictEntry}, (∀ p ∈ kvs, flatD p.2 = true) → DenE w N h kvs es → DenE w M h kvs es
  | _, _, _, .nil => .nil
  | _, _, f, .cons i x y r => .cons i (x.falseN i) (Den.flat (f _ (List.mem_cons_self ..)) y) (DenE.flatE (fun p m => f p (List.mem_cons_of_mem _ m)) r)

theorem tab_flat {t : List (PyData × Int)} : ∀ p ∈ tabKV t, flatD p.2 = true := fun p m => by
  obtain ⟨q, _, rfl⟩ := List.mem_map.mp m; rfl

/-- a table of counts at a place, whatever else moves -/
noncomputable def FD (w : World) (h : Heap) (a : Addr) (t : List (PyData × Int)) : Prop := ∃ es n, DictAtD w (fun _ => True) h a (tabKV t) es n
theorem FD.of {h : Heap} {a : Addr} {t : List (PyData × Int)} {es : List DictEntry} {n : Nat} (x : DictAtD w N h a (tabKV t) es n) : FD w h a t := ⟨es, n, x.1, DenE.flatE tab_flat x.2.1, x.2.2⟩
theorem FD.at {h : Heap} {a : Addr} {t : List (PyData × Int)} (N : Addr → Prop) (x : FD w h a t) : ∃ es n, DictAtD w N h a (tabKV t) es n := let ⟨es, n, y⟩ := x; ⟨es, n, y.1, DenE.flatE tab_flat y.2.1, y.2.2⟩
theorem FD.keep {h h' : Heap} {a : Addr} {t : List (PyData × Int)} (x : FD w h a t) (k : ∀ o, h.get? a = some o → h'.get? a = some o) (kt : ∀ b o, h.get? b = some o → TupObj o → h'.get? b = some o) : FD w h' a t :=
  let ⟨es, n, y⟩ := x; ⟨es, n, k _ y.1, y.2.1.chg (fun b o e q => q.elim (fun q => (q trivial).elim) (kt b o e)) fun _ _ n => n, y.2.2⟩
theorem FD.mv {O : Addr → Prop} {h h' : Heap} {a : Addr} {t : List (PyData × Int)} (x : FD w h a t) (m : Mv g O h h') (ha : ¬ g.T a ∧ ¬ O a) : FD w h' a t := x.keep (fun o e => m.keep _ _ e (.inl ha)) fun b o e q => m.keep _ _ e (.inr q)

/-- the body of add_callers, with one key to add -/
theorem add_run {t : List (PyData × Int)} {key : PyData} (ht : tabOk t) (hk : isKey key = true) (hsz : t.length < sizeLine) (bi : BName g (scp 1) "isinstance" (.builtin "isinstance")) (bt : BName g (scp 1) "tuple" (.type "tuple")) :
    RunR g prog w k (scp 1) true [("source", .dict [(key, .int 1)]), ("target", tabD t)] (fBody (stm 1)) (tabD (bumpT t key)) := by
  intro A env N s Q E hs hr z hQ
  rw [show fBody (stm 1) = _ :: _ from rfl, execs_cons]
  refine wpAny_bind (assign_new (D := .dict []) Ev.dict0 (fun M h v x => x.dictRef) (by decide) (fun _ _ => rfl) (fun _ _ => rfl) hs hr z fun h₁ a m₁ d₁ => ?_)
  obtain ⟨na, es, n, hat⟩ := Den.dictAt d₁ rfl
  have ha : s.heap.get? a = none := by
    cases e : s.heap.get? a with
    | none => rfl
    | some o => exact absurd (.inr (by rw [e]; rfl)) na
  refine ⟨fun b => b = a, fun b q => ⟨q ▸ ha, by rw [q, hat.1]; rfl⟩, fun h₂ t₂ m₂ m₁₂ z₂ => ?_⟩
  have ho : OffOwn g env a := ⟨fun o => z.cx.fresh ha (z.ok.own a o).1, z.cx.baseFresh ha, fun t => z.cx.fresh ha (z.cx.tabs a t)⟩
  have hmod : a ≠ sysModules := fun q => z.cx.fresh ha (q ▸ z.cx.mods)
  have f₂ : FD w h₂ a [] := (FD.of (t := []) hat).mv m₁₂ ⟨ho.2.2, fun o => ho.1 o.own⟩
  have stab : ∀ (T : Nat → List (PyData × Int)) (N' : Addr → Prop) (i : Nat) (h h' : Heap), (∀ b, (N b ∨ b = a) → N' b) → FD w h a (T i) → Chg N' h h' → (∀ b o, (N b ∨ b = a) → h.get? b = some o → h'.get? b = some o) → FD w h' a (T i) :=
    fun T N' i h h' _ x c kk => x.keep (fun o e => kk _ _ (.inr rfl) e) fun b o e q => c b o e (.inr q)
  show wpAny _ A (execs (_ :: _) env) Q E _
  rw [execs_cons]
  refine wpAny_bind (for_run (l := t) (f := fun p => PyData.tuple [p.1, .int p.2]) (s := { s with heap := h₂, toks := t₂ }) (R := fun _ => [("new_callers", refD a), ("source", .dict [(key, .int 1)]), ("target", tabD t)]) (K := fun N' i h => FD w h a (t.take i)) (O := fun b => b = a)
    (Src.eq (by simp [itemsD, tabKV]) (Src.items (kvs := tabKV t) (Ev.name rfl) (tab_open ht.1))) (fun _ _ => rfl) hs hr z₂ (fun _ _ q => q) (fun b q => ⟨.inr q, q ▸ ho.2.1⟩) (fun h' N' m _ _ => f₂.mv m ⟨ho.2.2, id⟩) (stab fun i => t.take i) (fun i p N' h tk v Q' E' hp hN z' hK dv hQ' => ?_) fun h₃ t₃ N' m₃ z₃ _ f₃ => ?_)
  · refine assign_sound (ρ' := [("caller", .int p.2), ("func", p.1), ("new_callers", refD a), ("source", .dict [(key, .int 1)]), ("target", tabD t)]) (xs := ["func", "caller"]) (.tup (.cons .name (.cons .name .nil))) hs hr.handled (by decide) (s := { s with heap := h, toks := tk }) z' dv fun h₄ t₄ m₄ z₄ => ?_
    have f₄ := hK.mv m₄ ⟨ho.2.2, fun o => ho.1 o.own⟩
    obtain ⟨es', n', hat'⟩ := f₄.at N'
    rw [execs_cons]
    refine wpAny_bind (set_dict (kd := p.1) (dv := .int p.2) (d := a) (Ev.name rfl) (Ev.name rfl) (Ev.name rfl) (ht.1 p (List.mem_of_getElem? hp)) hs hr (s := { s with heap := h₄, toks := t₄ }) z₄ (hN a (.inr rfl)) ho hat' (by simp only [tabKV, List.length_map, List.length_take]; omega) (fun _ => rfl) fun h₅ t₅ es₅ n₅ m₅ z₅ hat₅ => wpAny_execs_nil ⟨rfl, ?_⟩)
    rw [tab_copy ht hp] at hat₅
    refine hQ' h₅ t₅ ((m₄.mono fun b o => .inl o.c).trans (m₅.mono fun b o => .inr o)) (z₅.weaken (subCons rfl (subCons rfl (subCons rfl subNil)))) (FD.of hat₅)
  · rw [List.take_length] at f₃
    show wpAny _ A (execs (_ :: _) env) Q E _
    rw [execs_cons]
    refine wpAny_bind (for_run (l := [(key, (1 : Int))]) (f := fun p => PyData.tuple [p.1, .int p.2]) (s := { s with heap := h₃, toks := t₃ }) (R := fun _ => [("new_callers", refD a), ("source", .dict [(key, .int 1)]), ("target", tabD t)]) (K := fun N' i h => FD w h a (if i = 0 then t else bumpT t key)) (O := fun b => b = a)
      (Src.eq (by simp [itemsD]) (Src.items (kvs := [(key, .int 1)]) (Ev.name rfl) (notOpen_keys fun p m => by simp at m; rw [m]; exact hk))) (fun _ _ => rfl) hs hr z₃ (fun _ _ q => q) (fun b q => ⟨.inr q, q ▸ ho.2.1⟩) (fun h' N' m _ _ => f₃.mv m ⟨ho.2.2, id⟩) (stab fun i => if i = 0 then t else bumpT t key) (fun i p N' h tk v Q' E' hp hN z' hK dv hQ' => ?_) fun h₄ t₄ N' m₄ z₄ _ f₄ => ?_)
    · have hi : i = 0 := by
        have := (List.getElem?_eq_some_iff.mp hp).1
        simp at this; exact this
      subst hi
      simp only [List.getElem?_cons_zero, Option.some.injEq] at hp
      subst hp
      simp only [if_true] at hK
      refine assign_sound (ρ' := [("caller", .int 1), ("func", key), ("new_callers", refD a), ("source", .dict [(key, .int 1)]), ("target", tabD t)]) (xs := ["func", "caller"]) (.tup (.cons .name (.cons .name .nil))) hs hr.handled (by decide) (s := { s with heap := h, toks := tk }) z' dv fun h₄ t₄ m₄ z₄ => ?_
      have f₄ := hK.mv m₄ ⟨ho.2.2, fun o => ho.1 o.own⟩
      obtain ⟨es', n', hat'⟩ := f₄.at N'
      have hl : (tabKV t).length ≤ sizeLine := by simp only [tabKV, List.length_map]; omega
      rw [execs_cons]
      refine wpAny_bind (wpAny_If (test_in (kd := key) (d := a) (kvs := tabKV t) (Ev.name rfl) (Ev.name rfl) hk hs hr (s := { s with heap := h₄, toks := t₄ }) z₄ (hN a (.inr rfl)) hmod ho hat' fun h₅ t₅ m₅ => ?_))
      have f₅ := f₄.mv m₅ ⟨ho.2.2, id⟩
      obtain ⟨es₅, n₅, hat₅⟩ := f₅.at N'
      have z₅ := z₄.gr m₅
      cases hlk : lookD (tabKV t) key with
      | none =>
        simp only [Option.isSome_none, Bool.false_eq_true, if_false]
        rw [execs_cons]
        refine wpAny_bind (set_dict (kd := key) (dv := .int 1) (d := a) (Ev.name rfl) (Ev.name rfl) (Ev.name rfl) hk hs hr (s := { s with heap := h₅, toks := t₅ }) z₅ (hN a (.inr rfl)) ho hat₅ hl (fun _ => rfl) fun h₆ t₆ es₆ n₆ m₆ z₆ hat₆ => wpAny_execs_nil (wpAny_execs_nil ⟨rfl, ?_⟩))
        rw [bump_new hlk] at hat₆
        exact hQ' h₆ t₆ (((m₄.mono fun b o => .inl o.c).trans (m₅.mono fun b o => o.elim)).trans (m₆.mono fun b o => .inr o)) (z₆.weaken (subCons rfl (subCons rfl (subCons rfl subNil)))) (FD.of hat₆)
      | some d =>
        obtain ⟨u, rfl⟩ := look_int hlk
        simp only [Option.isSome_some, if_true]
        rw [execs_cons]
        refine wpAny_bind (wpAny_If (Tr.run (Tr.notTuple bi bt (Ev.name (d := .int 1) rfl)) (s := { s with heap := h₅, toks := t₅ }) hs hr z₅ fun h₆ t₆ m₆ => ?_))
        have f₆ := f₅.mv m₆ ⟨ho.2.2, id⟩
        obtain ⟨es₆, n₆, hat₆⟩ := f₆.at N'
        simp only [Bool.false_eq_true, if_false]
        rw [execs_cons]
        refine wpAny_bind (aug_dict (kd := key) (u := u) (v := 1) (d := a) (Ev.name rfl) (Ev.name rfl) (Ev.name rfl) hk hlk hs hr (s := { s with heap := h₆, toks := t₆ }) (z₅.gr m₆) (hN a (.inr rfl)) ho hat₆ hl fun h₇ t₇ es₇ n₇ m₇ z₇ hat₇ => wpAny_execs_nil (wpAny_execs_nil (wpAny_execs_nil ⟨rfl, ?_⟩)))
        rw [bump_old hlk] at hat₇
        exact hQ' h₇ t₇ ((((m₄.mono fun b o => .inl o.c).trans (m₅.mono fun b o => o.elim)).trans (m₆.mono fun b o => o.elim)).trans (m₇.mono fun b o => .inr o)) (z₇.weaken (subCons rfl (subCons rfl (subCons rfl subNil)))) (FD.of hat₇)
    · have f₄' : FD w h₄ a (bumpT t key) := by simpa using f₄
      show wpAny _ A (execs (_ :: _) env) Q E _
      rw [execs_cons]
      refine wpAny_bind (wpAny_Return_some (Ev.run (Ev.name (d := refD a) rfl) (s := { s with heap := h₄, toks := t₄ }) hs hr z₄ fun h₅ t₅ v m₅ d₅ => wpAny_pure ?_))
      cases d₅.refEq
      obtain ⟨es₅, n₅, hat₅⟩ := (f₄'.mv m₅ ⟨ho.2.2, id⟩).at (fun b => N b ∨ (true = true ∧ (s.heap.get? b).isSome))
      refine hQ h₅ t₅ _ (((m₂.fresh m₃ fun b q => q.elim .inl fun q => .inr (q ▸ ha)).fresh m₄ fun b q => q.elim .inl fun q => .inr (q ▸ ha)).trans (m₅.mono fun _ q => q.elim)) (hat₅.den fun q => ?_)
      rcases q with q | q
      · exact z.cx.fresh ha q
      · have := q.2; rw [ha] at this; cases this
end
end Mine

namespace Mine
open Sem (wp)

/-- a code and its table of inner codes: empty, or with one of them -/
noncomputable def TabI (h : Heap) (c P : Addr) (line col : Nat) (q : Str) : Prop :=
  W.CodeHd h c P ∧ ∃ ps, h.get? P = some (W.tabObj ps) ∧ (ps = #[] ∨ ∃ c' o vs t, ps = #[rawInt line, rawInt col, .ref c'] ∧ h.get? c' = some o ∧ o.cls = .type "code" ∧ o.data = .fields vs ∧ vs[1]? = some (.str q t))
theorem TabI.keep {h h' : Heap} {c P : Addr} {line col : Nat} {q : Str} (x : TabI h c P line col q) (kP : ∀ o, h.get? P = some o → h'.get? P = some o) (kc : ∀ b o, h.get? b = some o → CodeObj o → h'.get? b = some o) : TabI h' c P line col q := by
  obtain ⟨⟨o, vs, file, tf, flags, tg, inF, text, tt, e, hc, hd, r⟩, ps, hP, hps⟩ := x
  refine ⟨⟨o, vs, file, tf, flags, tg, inF, text, tt, kc _ _ e ⟨hc, _, hd⟩, hc, hd, r⟩, ps, kP _ hP, ?_⟩
  rcases hps with q | ⟨c', o', vs', t, e1, e2, e3, e4, e5⟩
  · exact .inl q
  · exact .inr ⟨c', o', vs', t, e1, kc _ _ e2 ⟨e3, _, e4⟩, e3, e4, e5⟩

/-- that g keeps such a table -/
structure TabG (g : G) (c P : Addr) (line col : Nat) (q : Str) : Prop where
  isT : g.T P
  get : ∀ h, g.TI h → TabI h c P line col q
  put : ∀ h h', g.TI h → (∀ b o, b ≠ P → h.get? b = some o → h'.get? b = some o) → TabI h' c P line col q → g.TI h'
  blt : ∀ h : Heap, (∀ b o, g.base.get? b = some o → h.get? b = some o) → h.BuiltinsAt g.mg P

section
variable {g : G} {prog : Program} {w : World} {k j : Nat} {sc : Scope} {φ φ₁ φ₂ φ₃ : Bool} {ρ ρ' ρ₁ ρ₂ : Rho} {N : Addr → Prop} {env : Env}

theorem TabG.mv {c P : Addr} {line col : Nat} {q : Str} (T : TabG g c P line col q) {h h' : Heap} (ti : g.TI h) (hx : Heap.ExtBut P h h') (hP : (h'.get? P).isSome) (x : TabI h' c P line col q) : Mv g noO h h' where
  keep := fun b o e n => hx b o (fun q => by
    rcases n with n | n
    · exact n.1 (q ▸ T.isT)
    · exact tab_not_tup ti T.isT (q ▸ e) n) e
  ti := fun t => T.put h h' t hx x
  live := fun b hb => by
    by_cases q : b = P
    · rw [q]; exact hP
    · cases e : h.get? b with
      | none => rw [e] at hb; cases hb
      | some o => rw [hx b o q e]; rfl

/-- an inner function is made -/
theorem mk_fun {A : Around} {E : Value → Shared → Prop} {s : Shared} {c P : Addr} {name qual : Str} {params : Arguments} {body : List Stmt} {scope : Scope} {clos : List (Str × Addr)} {pos : Pos} {firstLine : Nat} {Q : Value → Shared → Prop} (T : TabG g c P pos.line pos.col qual)
    (hcl : closureFor scope env = pure clos) (hge0 : env.globals = mainGlobals) (hcode : env.code = .ref c) (cx : Cx g N s.heap) (hne : clos ≠ [])
    (h : ∀ c' ctv doc h' tk f pm, Mv g noO s.heap h' → s.heap.get? f = none → h'.get? f = some (W.fnMade name qual params body scope clos doc pm c' ctv) → h'.CodeRec (.ref c') qual → (∀ o, h'.get? c' = some o → CodeObj o) → ¬ g.T f → Q (.ref f) { s with heap := h', toks := tk }) :
    wpAny (model prog w) A (makeFunction name qual params (.stmts body) scope env [] [] [] pos firstLine) Q E s := by
  obtain ⟨hC, ps, hP, hps⟩ := T.get _ cx.ti
  rw [makeFunction_eq]
  simp only [List.zip_nil_right, List.filterMap_nil, List.isEmpty_nil, if_true, pure_bind]
  have hgP : mainGlobals ≠ P := fun q => by
    obtain ⟨o, es, ep, e, hd, _⟩ := cx.nsG
    rw [q, hP] at e; cases e; cases hd
  obtain ⟨bm, ob, hbm, hne0, _, hneP, hbo, hcls, hdict, hdata⟩ := T.blt s.heap cx.glo
  have hfT : ∀ (h' : Heap) (f : Addr), g.TI h' → h'.get? f = none → ¬ g.T f := fun h' f ti e t => by
    obtain ⟨o, vs, e', _⟩ := g.tlive h' f ti t
    rw [e] at e'; cases e'
  rcases hps with rfl | ⟨c', o', vs', t', rfl, e2, e3, e4, e5⟩
  · unfold makeTail
    rw [hcl, hge0]
    refine wpAny_bind (wpAny_pure ?_)
    cases clos with
    | nil => exact absurd rfl hne
    | cons q r =>
      simp only [List.isEmpty_cons, Bool.false_eq_true, if_false]
      refine wpAny_bind (wpAny_newTextTuple ?_)
      refine wpAny_bind (wpAny_functionCodeX hcode ((hC.keeps fun b o e => Heap.get?_push_of_some _ e).code (Heap.get?_push_of_some _ hP) trivial) ((hC.keeps fun b o e => Heap.get?_push_of_some _ e).tab (Heap.get?_push_of_some _ hP)) rfl fun c' h' tk hx hge hlt _ hrec htb hnew => ?_)
      have hx' : Heap.ExtBut P s.heap h' := fun b o hb' e => hx b o hb' (Heap.get?_push_of_some _ e)
      have hg' := cx.nsG.extBut hx' hgP
      refine wpAny_bind (wpAny_builtinsFor hg' hbm hne0 (hx' _ _ hneP hbo) hcls hdict hdata ?_)
      refine wpAny_bind (wpAny_nsGet hg' ?_)
      obtain ⟨P', _, _, ⟨oc, vc, f1, f2, f3, f4⟩, _⟩ := hnew
      have hcode' : ∀ o, h'.get? c' = some o → CodeObj o := fun o e => by rw [f1] at e; cases e; exact ⟨f2, _, f3⟩
      obtain ⟨c₂, oc₂, vs₂, t₂, q1, q2, q3, q4⟩ := id hrec
      cases q1
      rw [f1] at q2; cases q2
      have tab' : TabI h' c P pos.line pos.col qual := by
        obtain ⟨o, vs, file, tf, flags, tg, inF, text, tt, e, hc, hd, r⟩ := hC
        have hcP : c ≠ P := fun q => by rw [q, hP] at e; cases e; cases hc
        refine ⟨⟨o, vs, file, tf, flags, tg, inF, text, tt, hx' _ _ hcP e, hc, hd, r⟩, _, htb.2, .inr ⟨c', oc, vs₂, t₂, by simp, f1, f2, q3, q4⟩⟩
      have mv : Mv g noO s.heap h' := T.mv cx.ti hx' (by rw [htb.2]; rfl) tab'
      have fin : ∀ (doc : Value) (tk' : Tok), Q (.ref h'.objs.size) { s with heap := h'.push (W.fnMade name qual params body scope (q :: r) doc ((g.mg "__name__").getD .none) c' (.ref s.heap.objs.size)), toks := tk' } := fun doc tk' => by
        refine h c' _ doc _ tk' h'.objs.size _ (mv.trans (.push _)) (new_none mv) (Heap.get?_push_size _ rfl) ?_ (fun o e => ?_) (hfT h' _ (mv.ti cx.ti) (Cx.nextFresh _))
        · obtain ⟨c₂, oc₂, vs₂, t₂, q1, q2, q3⟩ := hrec
          exact ⟨c₂, oc₂, vs₂, t₂, q1, Heap.get?_push_of_some _ q2, q3⟩
        · rw [Heap.get?_push_of_some _ f1] at e; cases e; exact ⟨f2, _, f3⟩
      cases hdoc : docOf body with
      | none => exact wpAny_bind (wpAny_pure (wpAny_newObj_type (fin _ _) (by size_fits)))
      | some t => exact wpAny_bind (wpAny_mkText (wpAny_newObj_type (fin _ _) (by size_fits)))
  · refine W.makeTail_hit (cv := .ref c') (mg := g.mg) (c := c) (P := P) (ps := #[rawInt pos.line, rawInt pos.col, .ref c']) hcl hge0 cx.nsG hcode hC hP (by simp [TriplesOk, rawInt]) (by simp [codeAmong, rawInt]) ⟨bm, ob, hbm, hne0, by assumption, hneP, hbo, hcls, hdict, hdata⟩ fun ctv doc h' tk hk hsz => ?_
    have mv : Mv g noO s.heap h' := .ofKeep hk
    refine h c' ctv doc _ tk h'.objs.size _ (mv.trans (.push _)) (new_none mv) (Heap.get?_push_size _ rfl) ⟨c', o', vs', t', rfl, Heap.get?_push_of_some _ (hk _ _ e2), e4, e5⟩ (fun o e => ?_) (hfT h' _ (mv.ti cx.ti) (Cx.nextFresh _))
    rw [Heap.get?_push_of_some _ (hk _ _ e2)] at e; cases e; exact ⟨e3, _, e4⟩
end
end Mine

namespace Mine
open Sem (wp)

/-- a function object that stands at f, with its code -/
structure FunAt (h : Heap) (f : Addr) (fd : FuncData) (c' : Addr) : Prop where
  obj : h.get? f = some { cls := .type "function", data := .func fd }
  code : fd.code = .ref c'
  rec' : h.CodeRec (.ref c') fd.qualname
  isCode : ∀ o, h.get? c' = some o → CodeObj o

section
variable {g : G} {prog : Program} {w : World} {k j : Nat} {sc : Scope} {φ φ₁ φ₂ φ₃ : Bool} {ρ ρ' ρ₁ ρ₂ : Rho} {N : Addr → Prop} {env : Env}

theorem FunAt.mv {O : Addr → Prop} {h h' : Heap} {f c' : Addr} {fd : FuncData} (x : FunAt h f fd c') (m : Mv g O h h') (ti : g.TI h) (hf : ¬ O f) (hc : ¬ O c') : FunAt h' f fd c' := by
  obtain ⟨c₂, o, vs, t, e1, e2, e3, e4⟩ := x.rec'
  cases e1
  have nT : ∀ {b : Addr} {o : Obj}, h.get? b = some o → o.cls ≠ .none → ¬ g.T b := fun e hn t => by
    obtain ⟨o', vs', e', _, hc'⟩ := g.tlive h _ ti t
    rw [e] at e'; cases e'; exact hn hc'
  have hcl := x.isCode o e2
  have e2' := m.keep _ _ e2 (.inl ⟨nT e2 (by rw [hcl.1]; simp), hc⟩)
  exact ⟨m.keep _ _ x.obj (.inl ⟨nT x.obj (by simp), hf⟩), x.code, ⟨c', o, vs, t, rfl, e2', e3, e4⟩, fun o' e => by rw [e2'] at e; cases e; exact hcl⟩
theorem FunAt.fnAt {h : Heap} {f c' : Addr} {fd : FuncData} (x : FunAt h f fd c') : W.FnAt f h := ⟨_, _, _, _, x.obj⟩

/-- a call of a name that holds a function of ours -/
theorem call_local {x : Str} {f : Addr} {np pos : Pos} {e : Expr} {es : List Expr} {ds : List PyData} {A : Around} {s : Shared} {Q E : Value → Shared → Prop} (hx : ρ.lookup x = some (refD f)) (y : EvL g prog w k sc φ ρ (e :: es) ds) (hs : env.scope = sc) (hr : Room A k) (z : St g w N env s.heap ρ) (hf : W.FnAt f s.heap) (hT : ¬ g.T f)
    (h : ∀ h' tk vs, Mv g noO s.heap h' → DenL w N h' ds vs → wpAny (model prog w) A (call (.ref f) vs) Q E { s with heap := h', toks := tk }) (hd : (x == ("__debug__" : Str)) = false := by decide) (hc : (x == ("__classdict__" : Str)) = false := by decide)
    (he : ∀ env, starEach (e :: es) env = (false, eval e env) :: starEach es env := by intro _; rfl) (hpl : ∀ env, (backTo pos (starEach es env)).any (·.1) = false := by intro _; rfl) :
    wpAny (model prog w) A (eval (.Call (.Name x np) (e :: es) [] pos) env) Q E s := by
  refine call_open (Ev.run (Ev.name (d := refD f) hx hd hc) hs hr z fun h₁ t₁ v m₁ d₁ => ?_)
  cases d₁.refEq
  have keepF : ∀ {h h' : Heap}, Mv g noO h h' → W.FnAt f h → W.FnAt f h' := fun m ⟨oc, od, fd, sl, e⟩ => ⟨oc, od, fd, sl, m.keep _ _ e (.inl ⟨hT, id⟩)⟩
  refine W.callWith_F (first := []) (keepF m₁ hf) (y A env N { s with heap := h₁, toks := t₁ } pos _ E hs hr (z.gr m₁) fun h₂ t₂ vs m₂ d₂ => ⟨keepF m₂ (keepF m₁ hf), ?_⟩) (he env) (hpl env)
  exact h h₂ t₂ vs (m₁.trans m₂) (d₂.weaken fun a _ n => .inl n)

theorem funOk_of {scope : Scope} {cl : List (Str × Addr)} (h : (scope.kind == .function && scope.names.all fun x => scope.names.lookup x.1 == some x.2) = true) (hc : ∀ x, (x, NameKind.free) ∈ scope.names → (cl.lookup x).isSome) : funOk scope cl = true := by
  simp only [funOk, Bool.and_eq_true, List.all_eq_true, beq_iff_eq, Bool.or_eq_true, bne_iff_ne] at h ⊢
  refine ⟨h.1, fun x m => ⟨h.2 x m, ?_⟩⟩
  by_cases q : x.2 = .free
  · exact .inr (hc x.1 (by rw [← q]; exact m))
  · exact .inl q

/-- a closure read in a frame that has its cells -/
theorem clo_of_st {h : Heap} {clos : List (Str × Addr)} {ρ₀ : Rho} (z : St g w N env h ρ) (hc : ∀ x c, clos.lookup x = some c → env.cells.lookup x = some c)
    (hx : ∀ x d, ρ₀.lookup x = some d → ρ.lookup x = some d ∧ (clos.lookup x).isSome ∧ env.kindOf x ≠ some .local) : Clo g w N h clos ρ₀ where
  cell := fun x c e => ⟨z.ok.cell x c (hc x c e), z.ok.own c (.inr ⟨x, hc x c e⟩)⟩
  inj := fun x y c e1 e2 => z.ok.inj x y c (hc x c e1) (hc y c e2)
  den := fun x d e => by
    obtain ⟨q1, q2, q3⟩ := hx x d e
    obtain ⟨c, ec⟩ := Option.isSome_iff_exists.mp q2
    obtain ⟨v, hv, dv⟩ := z.den x d q1
    rcases hv with ⟨a, _⟩ | ⟨_, c', e', i⟩
    · exact absurd a q3
    · rw [hc x c ec] at e'; cases e'
      exact ⟨c, v, ec, i, dv⟩
theorem rho_look {P : Str → Bool} : ∀ {ρ₀ : Rho}, (ρ₀.all fun p => P p.1) = true → ∀ x d, ρ₀.lookup x = some d → P x = true
  | [], _, x, d, e => by simp at e
  | (y, d') :: r, h, x, d, e => by
    rw [List.all_cons, Bool.and_eq_true] at h
    rw [List.lookup_cons] at e
    cases b : x == y with
    | true => rw [eq_of_beq b]; exact h.1
    | false => rw [b] at e; exact rho_look h.2 x d e

/-! digits, read from the lowest -/
noncomputable def valB : List Int → Int
  | [] => 0
  | d :: r => d + 2 * valB r
theorem valB_append (a b : List Int) : valB (a ++ b) = valB a + 2 ^ a.length * valB b := by
  induction a with
  | nil => simp [valB]
  | cons d r ih => simp only [List.cons_append, valB, ih, List.length_cons, Int.pow_succ]; rw [Int.mul_add, Int.mul_comm (2 ^ r.length) 2, Int.mul_assoc]; omega
noncomputable def bits01 (l : List Int) : Prop := ∀ d ∈ l, d = 0 ∨ d = 1
theorem valB_range {l : List Int} (h : bits01 l) : 0 ≤ valB l ∧ valB l < 2 ^ l.length := by
  induction l with
  | nil => simp [valB]
  | cons d r ih =>
    have h1 := ih fun x m => h x (List.mem_cons_of_mem _ m)
    have h2 := h d (List.mem_cons_self ..)
    simp only [valB, List.length_cons, Int.pow_succ]
    omega
theorem intBits_le {x : Int} {m : Nat} (h0 : 0 ≤ x) (h : x < 2 ^ m) : Builtin.Int.intBits x ≤ m := by
  unfold Builtin.Int.intBits
  by_cases q : x = 0
  · simp [q]
  · rw [if_neg (by simpa using q)]
    have : x.natAbs ≠ 0 := by omega
    have h2 : x.natAbs < 2 ^ m := by
      have : (x.natAbs : Int) = x := by omega
      have h3 : ((x.natAbs : Nat) : Int) < ((2 ^ m : Nat) : Int) := by rw [this]; push_cast; exact h
      exact_mod_cast h3
    have := (Nat.log2_lt this).mpr h2
    omega
end
end Mine

namespace Mine
open Sem (wp)

noncomputable abbrev inD : Stmt := (fBody (stm 5)).getD 0 (.Pass ⟨0, 0, 0, 0⟩)
noncomputable abbrev scD : Scope := fScope thePW.main.scope inD
noncomputable def dfltArgs : Arguments := { posonlyargs := [], args := [], vararg := none, kwonlyargs := [], kw_defaults := [], kwarg := none, defaults := [] }

section
variable {g : G} {prog : Program} {w : World} {k j : Nat} {sc : Scope} {φ φ₁ φ₂ φ₃ : Bool} {ρ ρ' ρ₁ ρ₂ : Rho} {N : Addr → Prop} {env : Env}

noncomputable def segB (ds : List Int) (L R : Nat) : List Int := (ds.drop L).take (R - L)
theorem segB_split (ds : List Int) {L M R : Nat} (h1 : L ≤ M) (h2 : M ≤ R) : segB ds L R = segB ds L M ++ segB ds M R := by
  unfold segB
  have e : R - L = (M - L) + (R - M) := by omega
  rw [e, List.take_add, List.drop_drop]
  congr 3; omega
theorem segB_len {ds : List Int} {L R : Nat} (h1 : L ≤ R) (h2 : R ≤ ds.length) : (segB ds L R).length = R - L := by
  unfold segB; rw [List.length_take, List.length_drop]; omega
theorem segB_bits {ds : List Int} (h : bits01 ds) (L R : Nat) : bits01 (segB ds L R) := fun d m => h d (List.mem_of_mem_drop (List.mem_of_mem_take m))

theorem half_eq (L R : Nat) : ((L : Int) + (R : Int)).fdiv (2 ^ (1 : Int).toNat) = (((L + R) / 2 : Nat) : Int) := by
  rw [Int.fdiv_eq_ediv_of_nonneg _ (by decide)]
  simp

theorem DenL.ints2 {h : Heap} {a b : Int} {vs : List Value} (x : DenL w N h [.int a, .int b] vs) : ∃ t u, vs = [.int a t, .int b u] := by
  cases x with
  | cons x r =>
    cases r with
    | cons y r => cases r; cases x; cases y; exact ⟨_, _, rfl⟩
theorem own_not {h : Heap} {b : Addr} {o : Obj} (z : St g w N env h ρ) (e : h.get? b = some o) (hd : (∀ es n, o.data ≠ .dict es n) ∧ ∀ v, o.data ≠ .cell v) : ¬ Own env b := fun q => by
  rcases q with q | ⟨x, q⟩
  · obtain ⟨m, o', es, ep, e', hd', _⟩ := z.ok.loc
    rw [← q, e] at e'; cases e'; exact hd.1 _ _ hd'
  · obtain ⟨v, o', e', hd'⟩ := z.ok.cell x b q
    rw [e] at e'; cases e'; exact hd.2 _ hd'
theorem FunAt.own {h h' : Heap} {f c' : Addr} {fd : FuncData} (x : FunAt h f fd c') (z : St g w N env h ρ) (m : Mv g (OwnC env) h h') : FunAt h' f fd c' := by
  obtain ⟨c₂, o, vs, t, e1, e2, e3, e4⟩ := x.rec'
  cases e1
  exact x.mv m z.cx.ti (fun o => own_not z x.obj ⟨fun es n => by simp, fun v => by simp⟩ o.own) (fun o => own_not z e2 ⟨fun es n => by rw [e3]; simp, fun v => by rw [e3]; simp⟩ o.own)

theorem inner_d2i {qual : Str} {clos : List (Str × Addr)} {doc pm ctv : Value} {c' f : Addr} {ds : List Int} (hb : bits01 ds) (hlen : ds.length ≤ 1000)
    (hclos : ∀ x, (x, NameKind.free) ∈ scD.names ↔ (clos.lookup x).isSome) :
    ∀ (n L R : Nat), R - L = n → L < R → R ≤ ds.length → ∀ (A : Around) (N : Addr → Prop) (s : Shared) (tL tR : Tok) (Q E : Value → Shared → Prop), Room A (n + 1) → Cx g N s.heap →
      Clo g w N s.heap clos [("digits", .list (ds.map .int)), ("inner", refD f), ("n", .int 1)] → FunAt s.heap f (W.fnX "inner" qual (fArgs dfltArgs inD) (fBody inD) scD clos .none .none doc pm none (.ref c') ctv) c' → ¬ g.T f →
      (∀ h' tk t', Mv g noO s.heap h' → Q (.int (valB (segB ds L R)) t') { s with heap := h', toks := tk }) → wpAny (model prog w) A (call (.ref f) [.int L tL, .int R tR]) Q E s := by
  intro n
  induction n using Nat.strongRecOn with
  | ind n ih =>
    intro L R hn hLR hR A N s tL tR Q E hr cx hclo hfun hfT hQ
    have hfree : ∀ x, (x, NameKind.free) ∈ scD.names → (clos.lookup x).isSome := fun x m => (hclos x).mp m
    have hok : funOk scD clos = true := funOk_of (by decide) hfree
    refine wpAny_call (call_fun (k := n) (ρ₀ := [("digits", .list (ds.map .int)), ("inner", refD f), ("n", .int 1)]) (names := ["L", "R"]) (ds := [.int L, .int R]) (Ff := fun _ _ => True) hr cx hfun.obj rfl rfl ?_ rfl rfl rfl rfl hok hclo (fun x c e => ?_) (fun x d e => ?_) rfl rfl rfl
      (.cons (.int _ _) (.cons (.int _ _) .nil)) fun h₁ t₁ env N' E' hs hr' hcode hqual z' hcl m₁ hN hN' hown => ?_)
    · have := hfun.rec'; rw [← hfun.code] at this; exact this
    · exact (funOk_at hok).2 x .free ((hclos x).mpr (by rw [e]; rfl)) |>.1
    · have := rho_look (P := fun x => scD.names.lookup x == some .free) (ρ₀ := [("digits", .list (ds.map .int)), ("inner", refD f), ("n", .int 1)]) rfl x d e
      simpa using this
    have hs' : env.scope = scD := hs
    have hfun₁ := hfun.mv m₁ cx.ti id id
    -- the closure, read again in the frame
    have clo' : ∀ {ρ' : Rho} {h₂ : Heap} {M : Addr → Prop}, St g w M env h₂ ρ' → ρ'.lookup ("digits" : Str) = some (.list (ds.map .int)) → ρ'.lookup ("inner" : Str) = some (refD f) → ρ'.lookup ("n" : Str) = some (.int 1) → Clo g w M h₂ clos [("digits", .list (ds.map .int)), ("inner", refD f), ("n", .int 1)] := by
      intro ρ' h₂ M z2 l1 l2 l3
      refine clo_of_st z2 (fun x c e => hcl x c ((funOk_at hok).2 x .free ((hclos x).mpr (by rw [e]; rfl))).1 e) fun x d e => ?_
      have hfr := rho_look (P := fun x => scD.names.lookup x == some .free) (ρ₀ := [("digits", .list (ds.map .int)), ("inner", refD f), ("n", .int 1)]) rfl x d e
      simp only [beq_iff_eq] at hfr
      refine ⟨subCons (ρ := ρ') l1 (subCons l2 (subCons l3 subNil)) x d e, hfree x (lookup_mem' hfr), ?_⟩
      unfold Env.kindOf; rw [hs', hfr]; simp
    show wpAny _ _ (execs (_ :: _) env) _ E' _
    rw [execs_cons]
    by_cases hone : L + 1 = R
    · refine wpAny_bind (wpAny_If (Tr.run (Tr.cmp (t := true) (Ev.bin (Ev.name (d := .int L) rfl) (Ev.int (φ := false)) (Op2.add (φ := false))) (Ev.name (d := .int R) rfl) ?_) (s := { s with heap := h₁, toks := t₁ }) hs' hr' z' fun h₂ t₂ m₂ => ?_))
      · have e : ((L : Int) + 1 == (R : Int)) = true := by simp; omega
        rw [← e]; exact Op2.eqI
      · simp only [if_true]
        rw [execs_cons]
        have hget : (ds.map PyData.int)[((L : Int)).toNat]? = some (.int (ds[L]'(by omega))) := by simp
        refine wpAny_bind (wpAny_Return_some (Ev.run (Ev.sub (Ev.name (d := .list (ds.map .int)) rfl) (Ev.name (d := .int L) rfl) (Op2.item (by omega) (by omega) hget)) (s := { s with heap := h₂, toks := t₂ }) hs' hr' (z'.gr m₂) fun h₃ t₃ v m₃ d₃ => ?_))
        cases d₃
        refine wpAny_pure (wpAny_pure ?_)
        have e2 : valB (segB ds L R) = ds[L]'(by omega) := by
          unfold segB
          have : R - L = 1 := by omega
          have h3 : ds.drop L = ds[L]'(by omega) :: ds.drop (L + 1) := List.drop_eq_getElem_cons (by omega)
          rw [this, h3, List.take_succ_cons, List.take_zero]
          simp only [valB]
          omega
        rw [← e2]
        exact hQ h₃ t₃ _ ((m₁.trans m₂).trans m₃)
    · refine wpAny_bind (wpAny_If (Tr.run (Tr.cmp (t := false) (Ev.bin (Ev.name (d := .int L) rfl) (Ev.int (φ := false)) (Op2.add (φ := false))) (Ev.name (d := .int R) rfl) ?_) (s := { s with heap := h₁, toks := t₁ }) hs' hr' z' fun h₂ t₂ m₂ => ?_))
      · have e : ((L : Int) + 1 == (R : Int)) = false := by simp; omega
        rw [← e]; exact Op2.eqI
      · simp only [Bool.false_eq_true, if_false]
        refine wpAny_execs_nil ?_
        let mid := (L + R) / 2
        have hm1 : L < mid := by show L < (L + R) / 2; omega
        have hm2 : mid < R := by show (L + R) / 2 < R; omega
        show wpAny _ _ (execs (_ :: _) env) _ E' _
        rw [execs_cons]
        refine wpAny_bind (RunN.exec1 (RunN.assign (d := .int mid) (φ := false) (Ev.cong (Ev.bin (Ev.bin (Ev.name (d := .int L) rfl) (Ev.name (d := .int R) rfl) (Op2.add (φ := false))) (Ev.int (φ := false)) (Op2.shr (by decide))) (congrArg PyData.int (half_eq L R))) .name (by decide) (fun _ _ => rfl) (fun _ _ => rfl)) (s := { s with heap := h₂, toks := t₂ }) hs' hr' (z'.gr m₂) fun h₃ t₃ m₃ z₃ => ?_)
        show wpAny _ _ (execs (_ :: _) env) _ E' _
        rw [execs_cons]
        refine wpAny_bind (RunN.exec1 (RunN.assign (d := .int ((mid - L : Nat) : Int)) (φ := false) (Ev.cong (Ev.bin (Ev.bin (Ev.name (d := .int mid) rfl) (Ev.name (d := .int L) rfl) (Op2.sub (φ := false))) (Ev.name (d := .int 1) rfl) (Op2.mul ?_)) (congrArg PyData.int (by omega))) .name (by decide) (fun _ _ => rfl) (fun _ _ => rfl)) (s := { s with heap := h₃, toks := t₃ }) hs' hr' z₃ fun h₄ t₄ m₄ z₄ => ?_)
        · exact IntMulOk.of_right (intBits_le_64 (by decide) (by decide))
        show wpAny _ _ (execs (_ :: _) env) _ E' _
        rw [execs_cons]
        have hfun₂ := hfun₁.mv m₂ z'.cx.ti id id
        have hfun₃ := hfun₂.own (z'.gr m₂) m₃
        have hfun₄ := hfun₃.own z₃ m₄
        refine wpAny_bind (wpAny_Return_some (wpAny_BinOp (wpAny_BinOp (call_local (f := f) (ds := [.int mid, .int R]) rfl (EvL.cons (Ev.name rfl) (EvL.cons (φ := false) (Ev.name rfl) .nil)) hs' hr' (s := { s with heap := h₄, toks := t₄ }) z₄ hfun₄.fnAt hfT fun h₅ t₅ vs m₅ dvs => ?_))))
        obtain ⟨tx, ty, rfl⟩ := dvs.ints2
        have z₅ := z₄.gr m₅
        have hfun₅ := hfun₄.mv m₅ z₄.cx.ti id id
        refine ih (R - mid) (by omega) mid R rfl hm2 hR _ N' { s with heap := h₅, toks := t₅ } _ _ _ _ (hr'.le (by omega)) z₅.cx (clo' z₅ rfl rfl rfl) hfun₅ hfT fun h₆ t₆ tt m₆ => ?_
        have z₆ := z₅.gr m₆
        have hfun₆ := hfun₅.mv m₆ z₅.cx.ti id id
        refine Ev.run (Ev.name (d := .int ((mid - L : Nat) : Int)) rfl) (s := { s with heap := h₆, toks := t₆ }) hs' hr' z₆ fun h₇ t₇ v₇ m₇ d₇ => ?_
        cases d₇
        have hval := valB_range (segB_bits hb mid R)
        have hlen2 := segB_len (ds := ds) (L := mid) (R := R) (by omega) hR
        refine lshift_int (by omega) (by have := intBits_le hval.1 hval.2; rw [hlen2] at this; omega) ?_
        have z₇ := z₆.gr m₇
        have hfun₇ := hfun₆.mv m₇ z₆.cx.ti id id
        refine call_local (f := f) (ds := [.int L, .int mid]) rfl (EvL.cons (Ev.name rfl) (EvL.cons (φ := false) (Ev.name rfl) .nil)) hs' hr' (s := { s with heap := h₇, toks := t₇ + 1 }) z₇ hfun₇.fnAt hfT fun h₈ t₈ vs m₈ dvs => ?_
        obtain ⟨tx, ty, rfl⟩ := dvs.ints2
        have z₈ := z₇.gr m₈
        have hfun₈ := hfun₇.mv m₈ z₇.cx.ti id id
        refine ih (mid - L) (by omega) L mid rfl hm1 (by omega) _ N' { s with heap := h₈, toks := t₈ } _ _ _ _ (hr'.le (by omega)) z₈.cx (clo' z₈ rfl rfl rfl) hfun₈ hfT fun h₉ t₉ tt m₉ => ?_
        refine PySem.P.add_int (wpAny_pure ?_)
        have e3 : valB (segB ds mid R) * 2 ^ (((mid - L : Nat) : Int)).toNat + valB (segB ds L mid) = valB (segB ds L R) := by
          rw [segB_split ds (show L ≤ mid by omega) (show mid ≤ R by omega), valB_append, segB_len (by omega) (by omega), Int.toNat_natCast, Int.mul_comm, Int.add_comm]
        rw [e3]
        refine hQ h₉ _ _ ?_
        exact m₁.fresh ((((((((m₂.mono fun _ q => q.elim).trans m₃).trans m₄).trans (m₅.mono fun _ q => q.elim)).trans (m₆.mono fun _ q => q.elim)).trans (m₇.mono fun _ q => q.elim)).trans (m₈.mono fun _ q => q.elim)).trans (m₉.mono fun _ q => q.elim)) fun a o => .inr (hown a o)
end
end Mine

namespace Mine
open Sem (wp)

section
variable {g : G} {prog : Program} {w : World} {k j : Nat} {sc : Scope} {φ φ₁ φ₂ φ₃ : Bool} {ρ ρ' ρ₁ ρ₂ : Rho} {N : Addr → Prop} {env : Env}

noncomputable abbrev qualD : Str := (Str.ofString "_digits2int" ++ ".<locals>." : Str) ++ "inner"

theorem closed_names {sco sci : Scope} (h : (sci.names.all fun x => x.2 != .free || sco.names.lookup x.1 == some .cell) = true) {h₁ : Heap} (z : St g w N env h₁ ρ) (hs : env.scope = sco) : ∀ x ∈ sci.names, x.2 = .free → ∃ c, env.cells.lookup x.1 = some c := fun x m q => by
  have := List.all_eq_true.mp h x m
  rw [q] at this
  refine z.ok.has x.1 (.inl ?_)
  unfold Env.kindOf; rw [hs]
  simpa using this

theorem digits2int_fn {f : Addr} {o : Obj} {pm doc : Value} {c P : Addr} {ds : List Int} (ho : g.base.get? f = some o) (hd : o.data = .func (Calls.docDef "_digits2int" (fArgs dfltArgs (stm 5)) (fBody (stm 5)) (scp 5) pm (.ref c) doc)) (hcd : g.base.CodeRec (.ref c) "_digits2int")
    (T : TabG g c P 39 4 qualD) (bl : BName g (scp 5) "len" (.builtin "len")) (hb : bits01 ds) (hlen : ds.length ≤ 1000) (hne : ds ≠ []) : Fn g prog w (ds.length + 3) φ (.ref f) [.list (ds.map .int), .int 1] (.int (valB ds)) := by
  intro A N s vs Q E hr cx dv hQ
  obtain ⟨u, v, rfl, du, dv'⟩ : ∃ u v, vs = [u, v] ∧ Den w N s.heap (.list (ds.map .int)) u ∧ Den w N s.heap (.int 1) v := by
    cases dv with
    | cons x r => cases r with | cons y r => cases r; exact ⟨_, _, rfl, x, y⟩
  refine wpAny_call (call_fun (k := ds.length + 2) (ρ₀ := []) (names := ["digits", "n"]) (ds := [.list (ds.map .int), .int 1]) (Ff := fun _ _ => True) hr cx (cx.glo _ _ ho) hd rfl ?_ rfl rfl rfl rfl rfl Clo.none (fun x c e => by simp [Calls.docDef] at e) (fun x d e => by simp at e) rfl rfl rfl dv fun h₁ t₁ env N' E' hs hr' hcode hqual z' _ m₁ hN hN' hown => ?_)
  · obtain ⟨c', o', vs', t', q1, q2, q3⟩ := hcd
    exact ⟨c', o', vs', t', q1, cx.glo _ _ q2, q3⟩
  have hs' : env.scope = scp 5 := hs
  show wpAny _ _ (execs (_ :: _) env) _ E' _
  rw [execs_cons]
  obtain ⟨clos, hclos, hc1, hc2⟩ := closureFor_ok (scope := scD) (env := env) (closed_names (by decide) z' hs')
  have hq : qualnameIn env "inner" "inner" = qualD := by
    unfold qualnameIn
    have : (env.kindOf (Str.ofString "inner") == some NameKind.globalExplicit) = false := by unfold Env.kindOf; rw [hs']; rfl
    rw [this, hqual]
    rfl
  refine wpAny_bind (W.nestDef_K rfl rfl rfl (hq ▸ mk_fun (qual := qualD) T hclos z'.ok.glob hcode z'.cx (fun q => ?_) fun c' ctv doc' h₂ t₂ fi pm' m₂ hf0 hfo hrec hisc hfT => ?_))
  · have := hc2 "n" (by decide); rw [q] at this; simp at this
  have fun₂ : FunAt h₂ fi (W.fnX "inner" qualD (fArgs dfltArgs inD) (fBody inD) scD clos .none .none doc' pm' none (.ref c') ctv) c' := ⟨hfo, rfl, hrec, hisc⟩
  refine store_sound (d := refD fi) (s := { s with heap := h₂, toks := t₂ }) hs' (by decide) (z'.gr m₂) (.opn fi) fun h₃ t₃ m₃ z₃ => ?_
  have fun₃ := fun₂.own (z'.gr m₂) (m₃.mono fun a o => o.c)
  show wpAny _ _ (execs (_ :: _) env) _ E' _
  rw [execs_cons]
  refine wpAny_bind (wpAny_Return_some (wpAny_IfExp (Tr.run (Tr.listV (Ev.name (d := .list (ds.map .int)) rfl) (by simp; omega)) (s := { s with heap := h₃, toks := t₃ }) hs' hr' z₃ fun h₄ t₄ m₄ => ?_)))
  have hemp : (!(ds.map PyData.int).isEmpty) = true := by cases ds with | nil => exact absurd rfl hne | cons d r => rfl
  rw [hemp]
  simp only [if_true]
  have z₄ := z₃.gr m₄
  have fun₄ := fun₃.mv m₄ z₃.cx.ti id id
  refine call_local (f := fi) (ds := [.int 0, .int ((ds.map PyData.int).length : Nat)]) rfl (EvL.cons (φ := false) Ev.int (EvL.cons (Ev.fnB bl (EvL.cons (φ := false) (Ev.name (d := .list (ds.map .int)) rfl) .nil) (Fn.len (by simp; omega))) .nil)) hs' hr' (s := { s with heap := h₄, toks := t₄ }) z₄ fun₄.fnAt hfT fun h₅ t₅ vs m₅ dvs => ?_
  obtain ⟨tx, ty, rfl⟩ := dvs.ints2
  have z₅ := z₄.gr m₅
  have fun₅ := fun₄.mv m₅ z₄.cx.ti id id
  have hcl : Clo g w N' h₅ clos [("digits", .list (ds.map .int)), ("inner", refD fi), ("n", .int 1)] := by
    refine clo_of_st z₅ (fun x c e => (hc1 x c e).2) fun x d e => ?_
    have hfr := rho_look (P := fun x => scD.names.lookup x == some .free && (scp 5).names.lookup x == some .cell) (ρ₀ := [("digits", .list (ds.map .int)), ("inner", refD fi), ("n", .int 1)]) rfl x d e
    simp only [Bool.and_eq_true, beq_iff_eq] at hfr
    refine ⟨subCons rfl (subCons rfl (subCons rfl subNil)) x d e, hc2 x (lookup_mem' hfr.1), ?_⟩
    unfold Env.kindOf; rw [hs', hfr.2]; simp
  have hl0 : ((ds.map PyData.int).length : Nat) = ds.length := by simp
  rw [hl0]
  refine inner_d2i hb hlen (fun x => ⟨hc2 x, fun e => ?_⟩) ds.length 0 ds.length (by omega) (List.length_pos_iff.mpr hne) (Nat.le_refl _) _ N' { s with heap := h₅, toks := t₅ } tx ty _ _ (hr'.le (by omega)) z₅.cx hcl fun₅ hfT fun h₆ t₆ tt m₆ => wpAny_pure ?_
  · obtain ⟨c, ec⟩ := Option.isSome_iff_exists.mp e
    exact (hc1 x c ec).1
  · have e2 : segB ds 0 ds.length = ds := by simp [segB]
    rw [e2]
    refine hQ h₆ t₆ _ (m₁.fresh (((((m₂.mono fun _ q => q.elim).trans (m₃.mono fun a o => o.c)).trans (m₄.mono fun _ q => q.elim)).trans (m₅.mono fun _ q => q.elim)).trans (m₆.mono fun _ q => q.elim)) fun a o => .inr (hown a o)) (.int _ _)
end
end Mine

namespace Mine
open Sem (wp)

/-! bits -/
noncomputable def bitsL : Nat → Nat → List Int
  | 0, _ => []
  | m + 1, x => ((x % 2 : Nat) : Int) :: bitsL m (x / 2)
theorem bitsL_len : ∀ m x, (bitsL m x).length = m
  | 0, _ => rfl
  | m + 1, x => by simp [bitsL, bitsL_len m]
theorem bitsL_01 : ∀ m x, bits01 (bitsL m x)
  | 0, _ => by intro d h; cases h
  | m + 1, x => by
    intro d h
    rcases List.mem_cons.mp h with q | q
    · rw [q]; rcases Nat.mod_two_eq_zero_or_one x with e | e <;> simp [e]
    · exact bitsL_01 m _ d q
theorem bitsL_split : ∀ p q x, bitsL (p + q) x = bitsL p (x % 2 ^ p) ++ bitsL q (x / 2 ^ p)
  | 0, q, x => by simp [bitsL]
  | p + 1, q, x => by
    rw [show p + 1 + q = (p + q) + 1 by omega]
    simp only [bitsL, List.cons_append, List.cons.injEq]
    refine ⟨?_, ?_⟩
    · rw [Nat.pow_succ, Nat.mul_comm, Nat.mod_mul_right_mod]
    · rw [bitsL_split p q (x / 2)]
      congr 2
      · rw [Nat.pow_succ, Nat.mul_comm, Nat.mod_mul_right_div_self]
      · rw [Nat.div_div_eq_div_mul, Nat.pow_succ, Nat.mul_comm]
theorem valB_bitsL : ∀ m x, x < 2 ^ m → valB (bitsL m x) = x
  | 0, x, h => by simp at h; simp [bitsL, valB, h]
  | m + 1, x, h => by
    simp only [bitsL, valB]
    rw [valB_bitsL m (x / 2) (by rw [Nat.pow_succ] at h; omega)]
    omega
theorem bitsL_zero : ∀ m, bitsL m 0 = List.replicate m 0
  | 0 => rfl
  | m + 1 => by simp [bitsL, bitsL_zero m, List.replicate_succ]

theorem and_high (x p : Nat) : x &&& (x / 2 ^ p * 2 ^ p) = x / 2 ^ p * 2 ^ p := by
  refine Nat.eq_of_testBit_eq fun i => ?_
  rw [Nat.testBit_and, ← Nat.shiftRight_eq_div_pow, ← Nat.shiftLeft_eq, Nat.testBit_shiftLeft, Nat.testBit_shiftRight]
  by_cases h : p ≤ i
  · simp only [h, decide_true, Bool.true_and]
    rw [Nat.add_sub_cancel' h, Bool.and_self]
  · simp [h]
theorem xor_high (x p : Nat) : Builtin.bitXor (x : Int) (((x / 2 ^ p * 2 ^ p : Nat)) : Int) = ((x % 2 ^ p : Nat) : Int) := by
  have e : Builtin.bitAnd (x : Int) (((x / 2 ^ p * 2 ^ p : Nat)) : Int) = ((x / 2 ^ p * 2 ^ p : Nat) : Int) := by
    unfold Builtin.bitAnd
    simp only [Int.natCast_nonneg, decide_true, Int.toNat_natCast]
    rw [and_high]
  rw [bitXor_and, e]
  have := Nat.div_add_mod x (2 ^ p)
  rw [Nat.mul_comm] at this
  omega
end Mine

namespace Mine
open Sem (wp)

section
variable {g : G} {prog : Program} {w : World} {k j : Nat} {sc : Scope} {φ φ₁ φ₂ φ₃ : Bool} {ρ ρ' ρ₁ ρ₂ : Rho} {N : Addr → Prop} {env : Env} {e : Expr} {pos : Pos}

theorem setItem_exact {A : Around} {E : Value → Shared → Prop} {s : Shared} {l : Addr} {items : Array Value} {n : Nat} {i : Int} {t : Tok} {v : Value} {Q : Unit → Shared → Prop} (ho : s.heap.get? l = some ⟨.type "list", none, .seq items n, #[]⟩)
    (h0 : 0 ≤ i) (hfit : i < 2 ^ 63) (hn : i < items.size)
    (hQ : ∀ h' n', h'.get? l = some ⟨.type "list", none, .seq (items.setIfInBounds i.toNat v) n', #[]⟩ → Heap.SameBut l s.heap h' → Q () { s with heap := h' }) :
    wpAny (model prog w) A (setItem (.ref l) (.int i t) v) Q E s := by
  have hT : s.TypeIs (.ref l) "list" := ⟨_, ho, rfl⟩
  unfold setItem
  try with_reducible refine wpAny_holding ?_
  first | refine wpAny_bind (wpAny_pure ?_) | skip
  refine wpAny_bind (wpAny_sequenceKey hT (by decide) ?_)
  refine wpAny_bind (wpAny_callSpecial?_slot (name := Str.ofString "__setitem__") hT slot_list_setitem
    (wpAny_call_entry slot_list_setitem hT entry_list_setitem ?_ (args_list_setitem _ _ _)))
  show wpAny _ _ (Builtin.List.listSubscript? (.int i t) >>= _) _ _ s
  refine wpAny_bind (wpAny_listSubscript_int (fitsIndex_of h0 hfit) ?_)
  clear hfit
  obtain ⟨m, rfl⟩ := Int.eq_ofNat_of_zero_le h0
  have hj : m < items.size := by omega
  show wpAny _ _ ((seqItemAt l m >>= fun r => pure (r.map (m, ·))) >>= _) _ _ s
  refine wpAny_bind (wpAny_bind (wpAny_seqItemAt ho rfl (wpAny_pure ?_)))
  rw [Array.getElem?_eq_getElem hj]
  show wpAny _ _ (setSeqItemAt l m v >>= _) _ _ s
  have hfin := get?_update_seq ho (·.setIfInBounds m v)
  refine wpAny_bind (wpAny_setSeqItemAt ho rfl ?_)
  first
    | exact wpAny_bind (wpAny_pure (wpAny_pure ⟨.none, rfl, wpAny_pure (hQ _ _ hfin (Heap.SameBut.update ..))⟩))
    | exact wpAny_pure ⟨.none, rfl, wpAny_pure (hQ _ _ hfin (Heap.SameBut.update ..))⟩

theorem list_soft {h : Heap} {d : Addr} {vs : Array Value} {n : Nat} (e : h.get? d = some ⟨.type "list", none, .seq vs n, #[]⟩) : ∀ o, h.get? d = some o → ¬ TupObj o ∧ ¬ CodeObj o := fun o q => by
  rw [e] at q; cases q
  exact ⟨fun t => absurd t.1 (by simp), fun t => absurd t.1 (by simp)⟩

/-- o[i] = e, o an opened list -/
theorem set_list {o i : Expr} {spos : Pos} {dv : PyData} {m : Int} {d : Addr} {us : Array Value} {n : Nat} {A : Around} {s : Shared} {Q : Flow → Shared → Prop} {E : Value → Shared → Prop}
    (xe : Ev g prog w k sc φ ρ e dv) (xo : ∀ {N' : Addr → Prop} {s' : Shared} {Q' E' : Value → Shared → Prop}, Mv g noO s.heap s'.heap → St g w N env s'.heap ρ → (∀ h' tk, Mv g noO s'.heap h' → Q' (.ref d) { s' with heap := h', toks := tk }) → wpAny (model prog w) A (eval o env) Q' E' s')
    (xi : Ev g prog w k sc φ₂ ρ i (.int m)) (hs : env.scope = sc) (hr : Room A k) (z : St g w N env s.heap ρ) (hN : N d) (ho : OffOwn g env d)
    (hat : s.heap.get? d = some ⟨.type "list", none, .seq us n, #[]⟩) (h0 : 0 ≤ m) (hfit : m < 2 ^ 63) (hm : m < us.size) (hsw : ∀ env, swapsWith e (some (.Subscript o i spos)) pos.line env = pure false)
    (hQ : ∀ h₁ h' tk n' v, Mv g noO s.heap h₁ → Den w (fun a => N a ∨ (φ = true ∧ (s.heap.get? a).isSome)) h₁ dv v → Mv g (fun b => b = d) h₁ h' → St g w N env h' ρ → h'.get? d = some ⟨.type "list", none, .seq (us.setIfInBounds m.toNat v) n', #[]⟩ → Q .next { s with heap := h', toks := tk }) :
    wpAny (model prog w) A (exec (.Assign [.Subscript o i spos] e pos) env) Q E s := by
  refine wpAny_Assign_Subscript (xe A env N s _ E hs hr z fun h₁ t₁ v m₁ d₁ => xo (N' := N) (s' := { s with heap := h₁, toks := t₁ }) m₁ (z.gr m₁) fun h₂ t₂ m₂ =>
    xi A env N { s with heap := h₂, toks := t₂ } _ E hs hr ((z.gr m₁).gr m₂) fun h₃ t₃ iv m₃ d₃ => ?_) (hsw env)
  cases d₃
  have hT := z.cx.tabs
  have hk : ∀ {h h' : Heap} {o : Obj}, Mv g noO h h' → h.get? d = some o → h'.get? d = some o := fun m e => m.keep _ _ e (.inl ⟨ho.2.2, id⟩)
  have hat' := hk m₃ (hk m₂ (hk m₁ hat))
  refine setItem_exact hat' h0 hfit hm fun h₄ n' e₄ hsb => ?_
  have m₄ : Mv g (fun b => b = d) h₃ h₄ := .one hsb.extBut rfl ho.2.2 (list_soft hat') (by rw [e₄]; rfl)
  have m13 : Mv g noO s.heap h₃ := (m₁.trans m₂).trans m₃
  refine hQ h₃ h₄ t₃ n' v m13 (d₁.chg ((m₂.trans m₃).chg (fun a t => .inl (hT a t)) fun _ q => q.elim) fun _ _ n => n) m₄ ((z.gr m13).mv m₄ fun a q => ⟨q ▸ hN, q ▸ ho.2.1, q ▸ ho.1⟩) e₄

/-- a list of ints at a place, whatever else moves -/
noncomputable def LI (h : Heap) (a : Addr) (xs : List Int) : Prop := ∃ vs n, h.get? a = some ⟨.type "list", none, .seq vs n, #[]⟩ ∧ IntsAre vs.toList xs
theorem LI.mv {O : Addr → Prop} {h h' : Heap} {a : Addr} {xs : List Int} (x : LI h a xs) (m : Mv g O h h') (ha : ¬ g.T a ∧ ¬ O a) : LI h' a xs := let ⟨vs, n, e, i⟩ := x; ⟨vs, n, m.keep _ _ e (.inl ha), i⟩
theorem ints_set : ∀ {vs : List Value} {xs : List Int} {i : Nat} {x : Int} {t : Tok}, IntsAre vs xs → IntsAre (vs.set i (.int x t)) (xs.set i x)
  | _, _, _, _, _, .nil => .nil
  | _, _, 0, x, t, .cons n u r => .cons x t r
  | _, _, i + 1, x, t, .cons n u r => .cons n u (ints_set r)
end
end Mine

namespace Mine
open Sem (wp)

noncomputable abbrev inI : Stmt := (fBody (stm 4)).getD 1 (.Pass ⟨0, 0, 0, 0⟩)
noncomputable abbrev scI : Scope := fScope thePW.main.scope inI

section
variable {g : G} {prog : Program} {w : World} {k j : Nat} {sc : Scope} {φ φ₁ φ₂ φ₃ : Bool} {ρ ρ' ρ₁ ρ₂ : Rho} {N : Addr → Prop} {env : Env}

theorem not_interactive {h : Heap} (z : St g w N env h ρ) : interactive env = false := by
  unfold interactive; rw [z.ok.kind]; rfl
theorem DenL.ints3 {h : Heap} {a b c : Int} {vs : List Value} (x : DenL w N h [.int a, .int b, .int c] vs) : ∃ t u v, vs = [.int a t, .int b u, .int c v] := by
  cases x with
  | cons x r =>
    cases r with
    | cons y r => cases r with | cons z r => cases r; cases x; cases y; cases z; exact ⟨_, _, _, rfl⟩

theorem shr_eq (x p : Nat) : ((x : Int)).fdiv (2 ^ ((p : Int)).toNat) = ((x / 2 ^ p : Nat) : Int) := by
  rw [Int.fdiv_eq_ediv_of_nonneg _ (Int.pow_nonneg (by decide)), Int.toNat_natCast]
  push_cast; rfl
theorem intBits_nat {x m : Nat} (h : x < 2 ^ m) : Builtin.Int.intBits (x : Int) ≤ m := intBits_le (by omega) (by exact_mod_cast h)

theorem seg_set {xs : List Int} {L x : Nat} (hL : L < xs.length) (hx : x < 2 ^ (L + 1 - L)) : xs.set L (x : Int) = xs.take L ++ bitsL (L + 1 - L) x ++ xs.drop (L + 1) := by
  have e : L + 1 - L = 1 := by omega
  rw [e] at hx ⊢
  have h2 : x % 2 = x := by omega
  rw [List.set_eq_take_append_cons_drop, if_pos hL]
  simp [bitsL, h2]
theorem seg_two {xs : List Int} {L M R : Nat} (b1 b2 : List Int) (h1 : L ≤ M) (h2 : M ≤ R) (hR : R ≤ xs.length) (l1 : b1.length = M - L) (l2 : b2.length = R - M) :
    (xs.take L ++ b1 ++ xs.drop M).take M ++ b2 ++ (xs.take L ++ b1 ++ xs.drop M).drop R = xs.take L ++ (b1 ++ b2) ++ xs.drop R := by
  have e1 : (xs.take L ++ b1).length = M := by rw [List.length_append, List.length_take]; omega
  rw [List.take_append_of_le_length (by omega), List.take_of_length_le (by omega), List.drop_append, e1, List.drop_of_length_le (by omega), List.nil_append, List.drop_drop]
  have : M + (R - M) = R := by omega
  rw [this]
  simp
end
end Mine

namespace Mine
open Sem (wp)

section
variable {g : G} {prog : Program} {w : World} {k j : Nat} {sc : Scope} {φ φ₁ φ₂ φ₃ : Bool} {ρ ρ' ρ₁ ρ₂ : Rho} {N : Addr → Prop} {env : Env}

theorem FunAt.off {h h' : Heap} {f c' a : Addr} {fd : FuncData} {xs : List Int} (x : FunAt h f fd c') (l : LI h a xs) : f ≠ a ∧ c' ≠ a := by
  obtain ⟨vs, n, e, _⟩ := l
  obtain ⟨c₂, o, vs', t, e1, e2, e3, e4⟩ := x.rec'
  cases e1
  refine ⟨fun q => ?_, fun q => ?_⟩
  · have := x.obj; rw [q, e] at this; simp at this
  · rw [q, e] at e2; cases e2; simp at e3

theorem inner_i2d {qual : Str} {clos : List (Str × Addr)} {doc pm ctv : Value} {c' f a : Addr} (hclos : ∀ x, (x, NameKind.free) ∈ scI.names ↔ (clos.lookup x).isSome) (hfT : ¬ g.T f) (hab : g.base.get? a = none) (haT : ¬ g.T a) :
    ∀ (n L R x : Nat) (xs : List Int), R - L = n → L < R → R ≤ xs.length → xs.length ≤ 1000 → x < 2 ^ (R - L) → ∀ (A : Around) (N : Addr → Prop) (s : Shared) (tx tL tR : Tok) (Q E : Value → Shared → Prop), Room A (n + 1) → Cx g N s.heap →
      Clo g w N s.heap clos [("a_digits", refD a), ("inner", refD f), ("n", .int 1)] → FunAt s.heap f (W.fnX "inner" qual (fArgs dfltArgs inI) (fBody inI) scI clos .none .none doc pm none (.ref c') ctv) c' → N a → LI s.heap a xs →
      (∀ h' tk, Mv g (fun b => b = a) s.heap h' → LI h' a (xs.take L ++ bitsL (R - L) x ++ xs.drop R) → Q .none { s with heap := h', toks := tk }) → wpAny (model prog w) A (call (.ref f) [.int x tx, .int L tL, .int R tR]) Q E s := by
  intro n
  induction n using Nat.strongRecOn with
  | ind n ih =>
    intro L R x xs hn hLR hR hlen hx A N s tx tL tR Q E hr cx hclo hfun hNa hli hQ
    have hfree : ∀ x, (x, NameKind.free) ∈ scI.names → (clos.lookup x).isSome := fun x m => (hclos x).mp m
    have hok : funOk scI clos = true := funOk_of (by decide) hfree
    refine wpAny_call (call_fun (k := n) (ρ₀ := [("a_digits", refD a), ("inner", refD f), ("n", .int 1)]) (names := ["x", "L", "R"]) (ds := [.int x, .int L, .int R]) (Ff := fun _ _ => True) hr cx hfun.obj rfl rfl ?_ rfl rfl rfl rfl hok hclo (fun x c e => ?_) (fun x d e => ?_) rfl rfl rfl
      (.cons (.int _ _) (.cons (.int _ _) (.cons (.int _ _) .nil))) fun h₁ t₁ env N' E' hs hr' hcode hqual z' hcl m₁ hN hN' hown => ?_)
    · have := hfun.rec'; rw [← hfun.code] at this; exact this
    · exact (funOk_at hok).2 x .free ((hclos x).mpr (by rw [e]; rfl)) |>.1
    · have := rho_look (P := fun x => scI.names.lookup x == some .free) (ρ₀ := [("a_digits", refD a), ("inner", refD f), ("n", .int 1)]) rfl x d e
      simpa using this
    have hs' : env.scope = scI := hs
    have hfun₁ := hfun.mv m₁ cx.ti id id
    have li₁ := hli.mv m₁ ⟨haT, id⟩
    have ho : OffOwn g env a := ⟨by obtain ⟨vs, m, e, _⟩ := li₁; exact own_not z' e ⟨fun es n => by simp, fun v => by simp⟩, hab, haT⟩
    have hoa : ∀ b, OwnC env b → b ≠ a := fun b o q => ho.1 (q ▸ o.own)
    have clo' : ∀ {ρ' : Rho} {h₂ : Heap} {M : Addr → Prop}, St g w M env h₂ ρ' → ρ'.lookup ("a_digits" : Str) = some (refD a) → ρ'.lookup ("inner" : Str) = some (refD f) → ρ'.lookup ("n" : Str) = some (.int 1) → Clo g w M h₂ clos [("a_digits", refD a), ("inner", refD f), ("n", .int 1)] := by
      intro ρ' h₂ M z2 l1 l2 l3
      refine clo_of_st z2 (fun x c e => hcl x c ((funOk_at hok).2 x .free ((hclos x).mpr (by rw [e]; rfl))).1 e) fun x d e => ?_
      have hfr := rho_look (P := fun x => scI.names.lookup x == some .free) (ρ₀ := [("a_digits", refD a), ("inner", refD f), ("n", .int 1)]) rfl x d e
      simp only [beq_iff_eq] at hfr
      refine ⟨subCons (ρ := ρ') l1 (subCons l2 (subCons l3 subNil)) x d e, hfree x (lookup_mem' hfr), ?_⟩
      unfold Env.kindOf; rw [hs', hfr]; simp
    show wpAny _ _ (execs (_ :: _) env) _ E' _
    rw [execs_cons]
    by_cases hone : L + 1 = R
    · subst hone
      refine wpAny_bind (wpAny_If (Tr.run (Tr.cmp (t := true) (Ev.bin (Ev.name (d := .int L) rfl) (Ev.int (φ := false)) (Op2.add (φ := false))) (Ev.name (d := .int ((L + 1 : Nat) : Int)) rfl) ?_) (s := { s with heap := h₁, toks := t₁ }) hs' hr' z' fun h₂ t₂ m₂ => ?_))
      · have e : ((L : Int) + 1 == ((L + 1 : Nat) : Int)) = true := by simp
        rw [← e]; exact Op2.eqI
      · simp only [if_true]
        rw [execs_cons]
        obtain ⟨us, m, eus, hi⟩ := li₁.mv m₂ ⟨haT, id⟩
        have hl := hi.length
        simp only [Array.length_toList] at hl
        refine wpAny_bind (set_list (dv := .int x) (m := L) (d := a) (us := us) (n := m) (Ev.name (d := .int x) rfl) (fun m z h => Ev.run (Ev.name (d := refD a) rfl) hs' hr' z fun h' tk v m d => by cases d.refEq; exact h h' tk m) (Ev.name (d := .int L) rfl) hs' hr' (s := { s with heap := h₂, toks := t₂ }) (z'.gr m₂) (hN a hNa) ho eus (by omega) (by omega) (by rw [hl]; omega) (fun _ => rfl) fun h₃ h₄ t₄ n' v m₃ dv m₄ z₄ e₄ => ?_)
        cases dv
        show wpAny _ _ (execs (_ :: _) env) _ E' _
        rw [execs_cons]
        refine wpAny_bind (wpAny_Return_none (wpAny_pure (wpAny_pure ?_)))
        refine hQ h₄ t₄ ((m₁.mono fun _ q => q.elim).fresh (((m₂.mono fun _ q => q.elim).trans (m₃.mono fun _ q => q.elim)).trans m₄) fun a o => .inl o) ⟨_, n', e₄, ?_⟩
        rw [Array.toList_setIfInBounds, Int.toNat_natCast, ← seg_set (by omega) hx]
        exact ints_set hi
    · refine wpAny_bind (wpAny_If (Tr.run (Tr.cmp (t := false) (Ev.bin (Ev.name (d := .int L) rfl) (Ev.int (φ := false)) (Op2.add (φ := false))) (Ev.name (d := .int R) rfl) ?_) (s := { s with heap := h₁, toks := t₁ }) hs' hr' z' fun h₂ t₂ m₂ => ?_))
      · have e : ((L : Int) + 1 == (R : Int)) = false := by simp; omega
        rw [← e]; exact Op2.eqI
      · simp only [Bool.false_eq_true, if_false]
        refine wpAny_execs_nil ?_
        let mid := (L + R) / 2
        have hm1 : L < mid := by show L < (L + R) / 2; omega
        have hm2 : mid < R := by show (L + R) / 2 < R; omega
        let p := mid - L
        show wpAny _ _ (execs (_ :: _) env) _ E' _
        rw [execs_cons]
        refine wpAny_bind (RunN.exec1 (RunN.assign (d := .int mid) (φ := false) (Ev.cong (Ev.bin (Ev.bin (Ev.name (d := .int L) rfl) (Ev.name (d := .int R) rfl) (Op2.add (φ := false))) (Ev.int (φ := false)) (Op2.shr (by decide))) (congrArg PyData.int (half_eq L R))) .name (by decide) (fun _ _ => rfl) (fun _ _ => rfl)) (s := { s with heap := h₂, toks := t₂ }) hs' hr' (z'.gr m₂) fun h₃ t₃ m₃ z₃ => ?_)
        show wpAny _ _ (execs (_ :: _) env) _ E' _
        rw [execs_cons]
        refine wpAny_bind (RunN.exec1 (RunN.assign (d := .int (p : Int)) (φ := false) (Ev.cong (Ev.bin (Ev.bin (Ev.name (d := .int mid) rfl) (Ev.name (d := .int L) rfl) (Op2.sub (φ := false))) (Ev.name (d := .int 1) rfl) (Op2.mul (IntMulOk.of_right (intBits_le_64 (by decide) (by decide))))) (congrArg PyData.int (by show ((mid : Int) - L) * 1 = ((mid - L : Nat) : Int); omega))) .name (by decide) (fun _ _ => rfl) (fun _ _ => rfl)) (s := { s with heap := h₃, toks := t₃ }) hs' hr' z₃ fun h₄ t₄ m₄ z₄ => ?_)
        show wpAny _ _ (execs (_ :: _) env) _ E' _
        rw [execs_cons]
        refine wpAny_bind (RunN.exec1 (RunN.assign (d := .int ((x / 2 ^ p : Nat) : Int)) (φ := false) (Ev.cong (Ev.bin (Ev.name (d := .int x) rfl) (Ev.name (d := .int (p : Int)) rfl) (Op2.shr (by omega))) (congrArg PyData.int (shr_eq x p))) .name (by decide) (fun _ _ => rfl) (fun _ _ => rfl)) (s := { s with heap := h₄, toks := t₄ }) hs' hr' z₄ fun h₅ t₅ m₅ z₅ => ?_)
        show wpAny _ _ (execs (_ :: _) env) _ E' _
        rw [execs_cons]
        have hx2 : x / 2 ^ p < 2 ^ (R - mid) := by
          rw [Nat.div_lt_iff_lt_mul (by exact Nat.pow_pos (by decide)), ← Nat.pow_add]
          have : R - mid + p = R - L := by show R - mid + (mid - L) = R - L; omega
          rw [this]; exact hx
        have hx1 : x % 2 ^ p < 2 ^ (mid - L) := Nat.mod_lt _ (Nat.pow_pos (by decide))
        have hp : p ≤ 1000 := by show mid - L ≤ 1000; omega
        have hval : ((x / 2 ^ p : Nat) : Int) * 2 ^ ((p : Int)).toNat = ((x / 2 ^ p * 2 ^ p : Nat) : Int) := by rw [Int.toNat_natCast]; push_cast; rfl
        refine wpAny_bind (RunN.exec1 (RunN.assign (d := .int ((x % 2 ^ p : Nat) : Int)) (φ := false) (Ev.cong (Ev.bin (Ev.name (d := .int x) rfl) (Ev.cong (Ev.bin (Ev.name (d := .int ((x / 2 ^ p : Nat) : Int)) rfl) (Ev.name (d := .int (p : Int)) rfl) (Op2.shl (φ := false) (by omega) (by have := intBits_nat hx2; omega))) (congrArg PyData.int hval)) Op2.xor) (congrArg PyData.int (xor_high x p))) .name (by decide) (fun _ _ => rfl) (fun _ _ => rfl)) (s := { s with heap := h₅, toks := t₅ }) hs' hr' z₅ fun h₆ t₆ m₆ z₆ => ?_)
        have li₆ := ((((li₁.mv m₂ ⟨haT, id⟩).mv m₃ ⟨haT, fun o => hoa _ o rfl⟩).mv m₄ ⟨haT, fun o => hoa _ o rfl⟩).mv m₅ ⟨haT, fun o => hoa _ o rfl⟩).mv m₆ ⟨haT, fun o => hoa _ o rfl⟩
        have fun₆ := ((((hfun₁.mv m₂ z'.cx.ti id id).own (z'.gr m₂) m₃).own z₃ m₄).own z₄ m₅).own z₅ m₆
        show wpAny _ _ (execs (_ :: _) env) _ E' _
        rw [execs_cons]
        refine wpAny_bind (wpAny_Expr (call_local (f := f) (ds := [.int ((x % 2 ^ p : Nat) : Int), .int L, .int mid]) rfl (EvL.cons (Ev.name rfl) (EvL.cons (Ev.name rfl) (EvL.cons (φ := false) (Ev.name rfl) .nil))) hs' hr' (s := { s with heap := h₆, toks := t₆ }) z₆ fun₆.fnAt hfT fun h₇ t₇ vs m₇ dvs => ?_) (not_interactive z₆) rfl)
        obtain ⟨ta, tb, tc, rfl⟩ := dvs.ints3
        have z₇ := z₆.gr m₇
        have fun₇ := fun₆.mv m₇ z₆.cx.ti id id
        have li₇ := li₆.mv m₇ ⟨haT, id⟩
        refine ih (mid - L) (by omega) L mid (x % 2 ^ p) xs rfl hm1 (by omega) hlen hx1 _ N' { s with heap := h₇, toks := t₇ } _ _ _ _ _ (hr'.le (by omega)) z₇.cx (clo' z₇ rfl rfl rfl) fun₇ (hN a hNa) li₇ fun h₈ t₈ m₈ li₈ => ?_
        have z₈ := z₇.mv m₈ fun b q => ⟨q ▸ hN a hNa, q ▸ hab, q ▸ ho.1⟩
        have fun₈ := fun₇.mv m₈ z₇.cx.ti (fun₇.off (h' := h₇) li₇).1 (fun₇.off (h' := h₇) li₇).2
        show wpAny _ _ (execs (_ :: _) env) _ E' _
        rw [execs_cons]
        refine wpAny_bind (wpAny_Expr (call_local (f := f) (ds := [.int ((x / 2 ^ p : Nat) : Int), .int mid, .int R]) rfl (EvL.cons (Ev.name rfl) (EvL.cons (Ev.name rfl) (EvL.cons (φ := false) (Ev.name rfl) .nil))) hs' hr' (s := { s with heap := h₈, toks := t₈ }) z₈ fun₈.fnAt hfT fun h₉ t₉ vs m₉ dvs => ?_) (not_interactive z₈) rfl)
        obtain ⟨ta, tb, tc, rfl⟩ := dvs.ints3
        have z₉ := z₈.gr m₉
        have fun₉ := fun₈.mv m₉ z₈.cx.ti id id
        have li₉ := li₈.mv m₉ ⟨haT, id⟩
        have hxl : (xs.take L ++ bitsL (mid - L) (x % 2 ^ p) ++ xs.drop mid).length = xs.length := by
          simp only [List.length_append, List.length_take, List.length_drop, bitsL_len]; omega
        refine ih (R - mid) (by omega) mid R (x / 2 ^ p) _ rfl hm2 (by rw [hxl]; exact hR) (by rw [hxl]; exact hlen) hx2 _ N' { s with heap := h₉, toks := t₉ } _ _ _ _ _ (hr'.le (by omega)) z₉.cx (clo' z₉ rfl rfl rfl) fun₉ (hN a hNa) li₉ fun h₁₀ t₁₀ m₁₀ li₁₀ => ?_
        refine wpAny_execs_nil (hQ h₁₀ t₁₀ ?_ ?_)
        · have mm : Mv g (fun b => OwnC env b ∨ b = a) h₁ h₁₀ := (((((((((m₂.mono fun _ q => q.elim).trans (m₃.mono fun b o => .inl o)).trans (m₄.mono fun b o => .inl o)).trans (m₅.mono fun b o => .inl o)).trans (m₆.mono fun b o => .inl o)).trans (m₇.mono fun _ q => q.elim)).trans (m₈.mono fun b o => .inr o)).trans (m₉.mono fun _ q => q.elim)).trans (m₁₀.mono fun b o => .inr o))
          exact (m₁.mono fun _ q => q.elim).fresh mm fun b o => o.elim (fun o => .inr (hown b o)) .inl
        · have e3 : bitsL (R - L) x = bitsL (mid - L) (x % 2 ^ p) ++ bitsL (R - mid) (x / 2 ^ p) := by
            have : R - L = (mid - L) + (R - mid) := by omega
            rw [this, bitsL_split]
          rw [seg_two _ _ (show L ≤ mid by omega) (show mid ≤ R by omega) hR (bitsL_len _ _) (bitsL_len _ _), ← e3] at li₁₀
          exact li₁₀
end
end Mine

namespace Mine
open Sem (wp)

section
variable {g : G} {prog : Program} {w : World} {k j : Nat} {sc : Scope} {φ φ₁ φ₂ φ₃ : Bool} {ρ ρ' ρ₁ ρ₂ : Rho} {N N₂ : Addr → Prop} {env : Env}

/-- what was opened under a name is read again as what it is -/
theorem St.close {h : Heap} {x : Str} {a : Addr} {d : PyData} (z : St g w N₂ env h ((x, refD a) :: ρ)) (hs : ∀ b, N b → N₂ b) (hm : N sysModules) (ht : ∀ b, g.T b → N b) (ho : ∀ b, Own env b → N b) (hd : Den w N h d (.ref a)) : St g w N env h ((x, d) :: ρ) := by
  have z' := z.sub hs hm ht ho
  refine ⟨z'.cx, z'.ok, fun y e q => ?_⟩
  rw [List.lookup_cons] at q
  cases b : y == x with
  | true =>
    rw [b] at q; cases q
    obtain ⟨v, hv, dv⟩ := z'.den x (refD a) (by simp)
    cases dv.refEq
    rw [eq_of_beq b]
    exact ⟨_, hv, hd⟩
  | false =>
    rw [b] at q
    exact z'.den y e (by rw [List.lookup_cons, b]; exact q)

theorem Ev.bitLen {o : Expr} {apos pos : Pos} {i : Int} (x : Ev g prog w k sc φ₁ ρ o (.int i)) (hbase : ∀ env, attributeBase o "bit_length" env (eval o env) = eval o env := by intro _; rfl) (hline : (apos.endLine == pos.line) = true := by rfl) :
    Ev g prog w k sc φ ρ (.Call (.Attribute o "bit_length" apos) [] [] pos) (.int (Builtin.Int.intBits i)) := by
  intro A env N s Q E hs hr z hQ
  refine wpAny_Call_method (T := "int") (hbase env) rfl hline F.plainAttrs_int F.slot_int_bit_length F.type_int_bit_length (x A env N s _ E hs hr z fun h₁ t₁ v m₁ d₁ => ?_)
  cases d₁
  exact ⟨typeIs_int _ _ _, fun a e => by simp at e, callWith_method0 (call_int_bit_length (hQ h₁ _ _ m₁ (.int _ _)))⟩
noncomputable abbrev qualI : Str := (Str.ofString "_int2digits" ++ ".<locals>." : Str) ++ "inner"

theorem rep_flat (m : Nat) : (List.replicate m [PyData.int 0]).flatten = (List.replicate m (0 : Int)).map PyData.int := by
  induction m with
  | zero => rfl
  | succ m ih => rw [List.replicate_succ, List.flatten_cons, ih, List.replicate_succ]; rfl
theorem flat_ints : ∀ xs : List Int, flatDs (xs.map PyData.int) = true
  | [] => rfl
  | x :: xs => by simp only [List.map_cons, flatDs, flatD, Bool.true_and]; exact flat_ints xs

theorem LI.den {h : Heap} {a : Addr} {xs : List Int} (x : LI h a xs) (hn : ¬ N a) : Den w N h (.list (xs.map .int)) (.ref a) :=
  let ⟨vs, n, e, i⟩ := x; .list hn e (DenL.of_ints i)
theorem Den.li {h : Heap} {a : Addr} {xs : List Int} (x : Den w N h (.list (xs.map .int)) (.ref a)) : ¬ N a ∧ LI h a xs := by
  obtain ⟨na, vs, n, e, r⟩ := x.isList
  exact ⟨na, vs, n, e, r.ints⟩

theorem int2digits_fn {f : Addr} {o : Obj} {pm doc : Value} {c P : Addr} {x m : Nat} (ho : g.base.get? f = some o) (hd : o.data = .func (Calls.docDef "_int2digits" (fArgs dfltArgs (stm 4)) (fBody (stm 4)) (scp 4) pm (.ref c) doc)) (hcd : g.base.CodeRec (.ref c) "_int2digits")
    (T : TabG g c P 24 4 qualI) (bl : BName g (scp 4) "len" (.builtin "len")) (hm : Builtin.Int.intBits (x : Int) = m) (hlen : m ≤ 500) : Fn g prog w (m + 3) φ (.ref f) [.int x, .int 1] (.list ((bitsL m x).map .int)) := by
  intro A N s vs Q E hr cx dv hQ
  obtain ⟨tx, t1, rfl⟩ := dv.ints2
  refine wpAny_call (call_fun (k := m + 2) (ρ₀ := []) (names := ["a", "n"]) (ds := [.int x, .int 1]) (Ff := fun _ _ => True) hr cx (cx.glo _ _ ho) hd rfl ?_ rfl rfl rfl rfl rfl Clo.none (fun x c e => by simp [Calls.docDef] at e) (fun x d e => by simp at e) rfl rfl rfl dv fun h₁ t₁ env N' E' hs hr' hcode hqual z' _ m₁ hN hN' hown => ?_)
  · obtain ⟨c', o', vs', t', q1, q2, q3⟩ := hcd
    exact ⟨c', o', vs', t', q1, cx.glo _ _ q2, q3⟩
  have hs' : env.scope = scp 4 := hs
  show wpAny _ _ (execs (_ :: _) env) _ E' _
  rw [execs_cons]
  have hi : (((Builtin.Int.intBits (x : Int) : Nat) : Int) + 1 - 1).fdiv 1 = (m : Int) := by rw [hm]; simp
  refine wpAny_bind (assign_new (D := .list ((List.replicate m (0 : Int)).map .int)) (s := { s with heap := h₁, toks := t₁ })
    (Ev.cong (Ev.bin (Ev.lst (EvL.cons (φ := false) Ev.int .nil)) (Ev.cong (Ev.bin (φ := false) (Ev.bin (Ev.bin (φ := false) (Ev.bitLen (φ := false) (Ev.name (d := .int x) rfl)) (Ev.name (d := .int 1) rfl) (Op2.add (φ := false))) (Ev.int (φ := false)) (Op2.sub (φ := false))) (Ev.name (d := .int 1) rfl) (Op2.fdiv (by decide) (PyProof.noPylong_small (by decide)))) (congrArg PyData.int hi)) (Op2.mulL (by simp) (by omega) (by omega) (by simp; omega) (fun _ => by rw [Int.toNat_natCast, rep_flat]; exact flat_ints _))) (by rw [Int.toNat_natCast, rep_flat]))
    (fun M h v x => x.listRef) (by decide) (fun _ _ => rfl) (fun _ _ => rfl) hs' hr' z' fun h₂ a m₂ d₂ => ?_)
  obtain ⟨na, li₂⟩ := d₂.li
  have ha : h₁.get? a = none := by
    cases e : h₁.get? a with
    | none => rfl
    | some o => exact absurd (.inr (by rw [e]; rfl)) na
  have hab : g.base.get? a = none := z'.cx.baseFresh ha
  have haT : ¬ g.T a := fun t => z'.cx.fresh ha (z'.cx.tabs a t)
  have hao : ¬ Own env a := fun o => z'.cx.fresh ha (z'.ok.own a o).1
  refine ⟨fun b => b = a, fun b q => ⟨q ▸ ha, by obtain ⟨vs, n, e, _⟩ := li₂; rw [q, e]; rfl⟩, fun h₃ t₃ m₃ m₂₃ z₃ => ?_⟩
  have li₃ := li₂.mv m₂₃ ⟨haT, fun o => hao o.own⟩
  show wpAny _ _ (execs (_ :: _) env) _ E' _
  rw [execs_cons]
  obtain ⟨clos, hclos, hc1, hc2⟩ := closureFor_ok (scope := scI) (env := env) (closed_names (by decide) z' hs')
  have hq : qualnameIn env "inner" "inner" = qualI := by
    unfold qualnameIn
    have : (env.kindOf (Str.ofString "inner") == some NameKind.globalExplicit) = false := by unfold Env.kindOf; rw [hs']; rfl
    rw [this, hqual]
    rfl
  refine wpAny_bind (W.nestDef_K rfl rfl rfl (hq ▸ mk_fun (qual := qualI) (s := { s with heap := h₃, toks := t₃ }) T hclos z'.ok.glob hcode z₃.cx (fun q => ?_) fun c' ctv doc' h₄ t₄ fi pm' m₄ hf0 hfo hrec hisc hfT => ?_))
  · have := hc2 "n" (by decide); rw [q] at this; simp at this
  have fun₄ : FunAt h₄ fi (W.fnX "inner" qualI (fArgs dfltArgs inI) (fBody inI) scI clos .none .none doc' pm' none (.ref c') ctv) c' := ⟨hfo, rfl, hrec, hisc⟩
  refine store_sound (d := refD fi) (s := { s with heap := h₄, toks := t₄ }) hs' (by decide) (z₃.gr m₄) (.opn fi) fun h₅ t₅ m₅ z₅ => ?_
  have fun₅ := fun₄.own (z₃.gr m₄) (m₅.mono fun a o => o.c)
  have li₅ := (li₃.mv m₄ ⟨haT, id⟩).mv m₅ ⟨haT, fun o => hao o.own⟩
  have mv₅ : Mv g (OwnC env) h₁ h₅ := (m₃.trans (m₄.mono fun _ q => q.elim)).trans (m₅.mono fun a o => o.c)
  have zw : St g w (fun b => N' b ∨ b = a) env h₅ [("a_digits", refD a), ("inner", refD fi), ("n", .int 1), ("a", .int x)] := z₅.weaken (subCons rfl (subCons rfl (subCons rfl (subCons rfl subNil))))
  show wpAny _ _ (execs (_ :: _) env) _ E' _
  rw [execs_cons]
  -- the end: the list is read as what it is
  have fin : ∀ (h₆ : Heap) (t₆ : Nat), Mv g (fun b => OwnC env b ∨ b = a) h₁ h₆ → St g w (fun b => N' b ∨ b = a) env h₆ [("a_digits", refD a), ("inner", refD fi), ("n", .int 1), ("a", .int x)] → LI h₆ a (bitsL m x) →
      wpAny (model prog w) (A.deeper env) (execs [.Return (some (.Name "a_digits" ⟨36, 11, 36, 19⟩)) ⟨36, 4, 36, 19⟩] env) (fun fl s' => (fun r s' => match r with | .ok (.ret v) => Q v s' | .ok _ => False | .error e => E e s') (Except.ok (.ret (match fl with | .ret v => v | _ => .none)) : Result) s') E' { s with heap := h₆, toks := t₆ } := by
    intro h₆ t₆ m₆ z₆ li₆
    rw [execs_cons]
    refine wpAny_bind (wpAny_Return_some (Ev.run (Ev.name (d := refD a) rfl) (s := { s with heap := h₆, toks := t₆ }) hs' hr' z₆ fun h₇ t₇ v m₇ d₇ => wpAny_pure ?_))
    cases d₇.refEq
    have hsa : s.heap.get? a = none := by
      cases e : s.heap.get? a with
      | none => rfl
      | some o => have := m₁.live a (by rw [e]; rfl); rw [ha] at this; cases this
    refine hQ h₇ t₇ _ ((m₁.fresh m₆ fun b o => .inr (o.elim (hown b) fun q => q ▸ hsa)).trans m₇) ((li₆.mv m₇ ⟨haT, id⟩).den fun q => ?_)
    rcases q with q | q
    · exact z'.cx.fresh ha (hN a q)
    · have := q.2; rw [hsa] at this; cases this
  refine wpAny_bind (wpAny_If (Tr.run (Tr.intV (Ev.name (d := .int x) rfl)) (s := { s with heap := h₅, toks := t₅ }) hs' hr' zw fun h₆ t₆ m₆ => ?_))
  have z₆ := zw.gr m₆
  have li₆ := li₅.mv m₆ ⟨haT, id⟩
  have fun₆ := fun₅.mv m₆ zw.cx.ti id id
  by_cases hx0 : x = 0
  · have hx0' : (((x : Nat) : Int) != 0) = false := by simp [hx0]
    rw [hx0']
    simp only [Bool.false_eq_true, if_false]
    refine wpAny_execs_nil (fin h₆ t₆ ((mv₅.mono fun _ o => .inl o).trans (m₆.mono fun _ q => q.elim)) z₆ ?_)
    have e2 : bitsL m x = List.replicate m 0 := by rw [hx0, bitsL_zero]
    rw [e2]; exact li₆
  · have hx0' : (((x : Nat) : Int) != 0) = true := by simp [hx0]
    rw [hx0']
    simp only [if_true]
    rw [execs_cons]
    -- read as a list while its length is asked
    have zc : St g w N' env h₆ [("a_digits", .list ((List.replicate m (0 : Int)).map .int)), ("inner", refD fi), ("n", .int 1), ("a", .int x)] :=
      z₆.close (fun b n => .inl n) z'.cx.mods z'.cx.tabs (fun b o => (z'.ok.own b o).1) (li₆.den (z'.cx.fresh ha))
    refine wpAny_bind (wpAny_Expr (call_local (f := fi) (ds := [.int x, .int 0, .int (((List.replicate m (0 : Int)).map PyData.int).length : Nat)]) rfl (EvL.cons (Ev.name rfl) (EvL.cons Ev.int (EvL.cons (φ := false) (Ev.fnB bl (EvL.cons (φ := false) (Ev.name (d := .list ((List.replicate m (0 : Int)).map .int)) rfl) .nil) (Fn.len (by simp; omega))) .nil))) hs' hr' (s := { s with heap := h₆, toks := t₆ }) zc fun₆.fnAt hfT fun h₇ t₇ vs m₇ dvs => ?_) (not_interactive z₆) rfl)
    obtain ⟨ta, tb, tc, rfl⟩ := dvs.ints3
    have hl0 : (((List.replicate m (0 : Int)).map PyData.int).length : Nat) = m := by simp
    rw [hl0]
    have z₇ := z₆.gr m₇
    have fun₇ := fun₆.mv m₇ z₆.cx.ti id id
    have li₇ := li₆.mv m₇ ⟨haT, id⟩
    have hcl : Clo g w (fun b => N' b ∨ b = a) h₇ clos [("a_digits", refD a), ("inner", refD fi), ("n", .int 1)] := by
      refine clo_of_st z₇ (fun x c e => (hc1 x c e).2) fun y d e => ?_
      have hfr := rho_look (P := fun x => scI.names.lookup x == some .free && (scp 4).names.lookup x == some .cell) (ρ₀ := [("a_digits", refD a), ("inner", refD fi), ("n", .int 1)]) rfl y d e
      simp only [Bool.and_eq_true, beq_iff_eq] at hfr
      refine ⟨subCons rfl (subCons rfl (subCons rfl subNil)) y d e, hc2 y (lookup_mem' hfr.1), ?_⟩
      unfold Env.kindOf; rw [hs', hfr.2]; simp
    have hbound : x < 2 ^ m := by
      have h0 : Builtin.Int.intBits (x : Int) = x.log2 + 1 := by
        unfold Builtin.Int.intBits
        rw [if_neg (by simpa using hx0)]; simp
      rw [h0] at hm
      rw [← hm]
      exact (Nat.log2_lt hx0).mp (Nat.lt_succ_self _)
    have hm0 : 0 < m := by
      rcases Nat.eq_zero_or_pos m with q | q
      · rw [q] at hbound; simp at hbound; exact absurd hbound hx0
      · exact q
    refine inner_i2d (fun y => ⟨hc2 y, fun e => ?_⟩) hfT hab haT m 0 m x (List.replicate m 0) (by omega) hm0 (by simp) (by simp; omega) (by simpa using hbound) _ _ { s with heap := h₇, toks := t₇ } _ _ _ _ _ (hr'.le (by omega)) z₇.cx hcl fun₇ (.inr rfl) li₇ fun h₈ t₈ m₈ li₈ => ?_
    · obtain ⟨c, ec⟩ := Option.isSome_iff_exists.mp e
      exact (hc1 y c ec).1
    · refine wpAny_execs_nil (fin h₈ t₈ ((((mv₅.mono fun _ o => .inl o).trans (m₆.mono fun _ q => q.elim)).trans (m₇.mono fun _ q => q.elim)).trans (m₈.mono fun _ q => .inr q)) (z₇.mv m₈ fun b q => ⟨.inr q, q ▸ hab, q ▸ hao⟩) ?_)
      simpa using li₈
end
end Mine

namespace Mine
open Sem (wp)

noncomputable def rowD (r : List Int) : PyData := .list (r.map .int)
noncomputable def rowsD (rows : List (List Int)) : PyData := .list (rows.map rowD)

section
variable {g : G} {prog : Program} {w : World} {k j : Nat} {sc : Scope} {φ φ₁ φ₂ φ₃ : Bool} {ρ ρ' ρ₁ ρ₂ : Rho} {N N₂ : Addr → Prop} {env : Env} {e : Expr} {pos : Pos} {body rest : List Stmt}

theorem getD_of {α : Type} {l : List α} {i : Nat} {d : α} (h : i < l.length) : l[i]? = some (l.getD i d) := by simp [h]

theorem ev_item {r : List Int} {l : Nat} {er el : Expr} (xr : Ev g prog w k sc φ₁ ρ er (rowD r)) (xl : Ev g prog w k sc φ₂ ρ el (.int (l : Int))) (hl : l < r.length) (hsz : r.length < 2 ^ 62)
    (h1 : ∀ i p t, subscripted el false (.ref p) (.int i t) = operate [.ref p, .int i t] (getItem (.ref p) (.int i t)) := by intro _ _ _; rfl) : Ev g prog w k sc false ρ (.Subscript er el pos) (.int (r.getD l 0)) :=
  Ev.sub xr xl (Op2.item (by omega) (by omega) (by rw [Int.toNat_natCast, List.getElem?_map, getD_of hl]; rfl) (h1 _))

end
end Mine

namespace Mine
open Sem (wp)

mutual
theorem BindR.keep : ∀ {t : Expr} {d : PyData} {ρ ρ' : Rho} {xs : List Str}, BindR t d ρ ρ' xs → ∀ y, y ∉ xs → List.lookup y ρ' = List.lookup y ρ
  | _, _, _, _, _, .name, y, h => by
    rw [List.lookup_cons]
    have : (y == _) = false := beq_eq_false_iff_ne.mpr fun q => h (by rw [q]; exact List.mem_singleton.mpr rfl)
    rw [this]
  | _, _, _, _, _, .tup r, y, h => BindRs.keep r y h
  | _, _, _, _, _, .tupL r, y, h => BindRs.keep r y h
theorem BindRs.keep : ∀ {t : List Expr} {d : List PyData} {ρ ρ' : Rho} {xs : List Str}, BindRs t d ρ ρ' xs → ∀ y, y ∉ xs → List.lookup y ρ' = List.lookup y ρ
  | _, _, _, _, _, .nil, y, h => rfl
  | _, _, _, _, _, .cons b r, y, h => (BindRs.keep r y fun q => h (List.mem_append_right _ q)).trans (BindR.keep b y fun q => h (List.mem_append_left _ q))
end

section
variable {g : G} {prog : Program} {w : World} {k j : Nat} {sc : Scope} {φ φ₁ φ₂ φ₃ : Bool} {ρ ρ' ρ₁ ρ₂ : Rho} {N N₂ : Addr → Prop} {env : Env} {e : Expr} {pos : Pos} {body rest : List Stmt}

theorem keep_of {t : Expr} {d : PyData} {ρ ρ' : Rho} {xs : List Str} (b : BindR t d ρ ρ' xs) (h : (xs.all fun x => (List.lookup x ρ).isNone) = true) : ∀ x d, List.lookup x ρ = some d → List.lookup x ρ' = some d := fun x d e => by
  rw [b.keep x fun m => ?_]
  · exact e
  · have := List.all_eq_true.mp h x m
    rw [e] at this; cases this

theorem stor_of {scope : Scope} {x : Str} (h : (scope.names.lookup x == some .local || scope.names.lookup x == some .cell) = true) : storable (relabelS scope sc) x = true := by
  unfold storable relabelS
  simp only [lookup_relabel]
  simp only [Bool.or_eq_true, beq_iff_eq] at h
  rcases h with h | h <;> rw [h] <;> simp

/-- the names T are the comprehension's own -/
noncomputable def ownNames (scope : Scope) (T : List Str) : Bool := T.all fun x => scope.names.lookup x == some .local || scope.names.lookup x == some .cell

theorem ownNames_none {scope : Scope} {T : List Str} (h : ownNames scope T = true) : (T.all fun x => (List.lookup x (inner scope ρ)).isNone) = true := by
  rw [List.all_eq_true]
  intro x m
  have := List.all_eq_true.mp h x m
  simp only [Bool.or_eq_true, beq_iff_eq] at this
  cases e : List.lookup x (inner scope ρ) with
  | none => rfl
  | some d =>
    have q := (inner_look e).2
    rcases this with r | r <;> rw [q] at r <;> cases r
theorem ownNames_stor {scope : Scope} {T : List Str} (h : ownNames scope T = true) : ∀ x ∈ T, storable (relabelS scope sc) x = true := fun x m => stor_of (List.all_eq_true.mp h x m)

/-- a last clause -/
theorem loop_last {α : Type} {elt t iter : Expr} {ifs : List Expr} {gens : List Comprehension} {depth : Nat} {scope : Scope} {l : List α} {f : α → PyData} {ρ' : α → Rho} {xs T : List Str} {p : α → Bool} {out : α → PyData} (hc : gens[depth]? = some ⟨t, iter, ifs, 0⟩) (hn : gens[depth + 1]? = none)
    (hb : ∀ a ∈ l, BindR t (f a) ρ (ρ' a) xs) (hk : (xs.all fun x => (List.lookup x ρ).isNone) = true) (hT : ownNames scope T = true) (hxT : (xs.all fun x => T.contains x) = true)
    (ht : ∀ a ∈ l, Trs g prog w k (relabelS scope sc) (ρ' a) ifs (p a)) (he : ∀ a ∈ l, p a = true → Ev g prog w k (relabelS scope sc) φ (ρ' a) elt (out a)) :
    LoopOk g prog w k (relabelS scope sc) φ T (.ListComp elt gens scope pos) depth t ρ (l.map f) ((l.filter p).map out) := by
  have hx : ∀ x ∈ xs, x ∈ T := fun x m => by simpa using List.all_eq_true.mp hxT x m
  have := loop_of (g := g) (prog := prog) (w := w) (k := k) (sc := relabelS scope sc) (φ := φ) (T := T) (l := l) (f := f) (ρ' := ρ') (xs := xs) (p := p) (out := fun a => [out a]) (fun it acc env => compTurn_emit (pos := pos) (scope := scope) (elt := elt) hc hn) hb (fun x m => ownNames_stor hT x (hx x m)) hx
    (fun a m => keep_of (hb a m) hk) ht (fun a m q => emit_of_ev (he a m q))
  have e : (l.flatMap fun a => if p a = true then [out a] else []) = (l.filter p).map out := by
    clear this ht he hb
    induction l with
    | nil => rfl
    | cons a l ih =>
      rw [List.flatMap_cons, ih, List.filter_cons]
      cases p a <;> simp
  rwa [e] at this
/-- a clause with one behind it -/
theorem loop_more {α : Type} {elt t iter t' iter' : Expr} {ifs ifs' : List Expr} {gens : List Comprehension} {depth : Nat} {scope : Scope} {l : List α} {f : α → PyData} {ρ' : α → Rho} {xs T : List Str} {p : α → Bool} {ds out : α → List PyData} (hc : gens[depth]? = some ⟨t, iter, ifs, 0⟩) (hn : gens[depth + 1]? = some ⟨t', iter', ifs', 0⟩) (hf : ∀ env x, foldedSetIterable iter' env x = pure x)
    (hb : ∀ a ∈ l, BindR t (f a) ρ (ρ' a) xs) (hk : (xs.all fun x => (List.lookup x ρ).isNone) = true) (hT : ownNames scope T = true) (hxT : (xs.all fun x => T.contains x) = true)
    (ht : ∀ a ∈ l, Trs g prog w k (relabelS scope sc) (ρ' a) ifs (p a)) (hs : ∀ a ∈ l, p a = true → Src g prog w k (relabelS scope sc) (ρ' a) t' iter' (ds a)) (he : ∀ a ∈ l, p a = true → LoopOk g prog w k (relabelS scope sc) φ T (.ListComp elt gens scope pos) (depth + 1) t' (ρ' a) (ds a) (out a)) :
    LoopOk g prog w k (relabelS scope sc) φ T (.ListComp elt gens scope pos) depth t ρ (l.map f) ((l.filter p).flatMap out) := by
  have hx : ∀ x ∈ xs, x ∈ T := fun x m => by simpa using List.all_eq_true.mp hxT x m
  have := loop_of (g := g) (prog := prog) (w := w) (k := k) (sc := relabelS scope sc) (φ := φ) (T := T) (l := l) (f := f) (ρ' := ρ') (xs := xs) (p := p) (out := out) (fun it acc env => compTurn_next (pos := pos) (scope := scope) (elt := elt) hc hn) hb (fun x m => ownNames_stor hT x (hx x m)) hx
    (fun a m => keep_of (hb a m) hk) ht (fun a m q => next_of_loop hn hf (hs a m q) (he a m q))
  have e : (l.flatMap fun a => if p a = true then out a else []) = (l.filter p).flatMap out := by
    clear this ht he hb hs
    induction l with
    | nil => rfl
    | cons a l ih =>
      rw [List.flatMap_cons, ih, List.filter_cons]
      cases p a <;> simp
  rwa [e] at this

theorem Ev.comp1 {α : Type} {elt t iter : Expr} {ifs : List Expr} {scope : Scope} {l : List α} {f : α → PyData} {ρ' : α → Rho} {xs : List Str} {p : α → Bool} {out : α → PyData}
    (src : Src g prog w k sc ρ t iter (l.map f)) (hb : ∀ a ∈ l, BindR t (f a) (inner scope ρ) (ρ' a) xs) (ht : ∀ a ∈ l, Trs g prog w k (relabelS scope sc) (ρ' a) ifs (p a)) (he : ∀ a ∈ l, p a = true → Ev g prog w k (relabelS scope sc) φ (ρ' a) elt (out a))
    (hsz : l.length ≤ sizeLine) (hck : compOk scope sc = true := by decide) (hT : ownNames scope xs = true := by decide) (hf : ∀ env x, foldedSetIterable iter env x = pure x := by intro _ _; rfl) :
    Ev g prog w k sc φ ρ (.ListComp elt [⟨t, iter, ifs, 0⟩] scope pos) (.list ((l.filter p).map out)) :=
  Ev.comp src (loop_last rfl rfl hb (ownNames_none hT) hT (by simp) ht he) (by rw [List.length_map]; exact Nat.le_trans (List.length_filter_le ..) hsz) hck hT hf
theorem Ev.comp0 {α : Type} {elt t iter : Expr} {scope : Scope} {l : List α} {f : α → PyData} {ρ' : α → Rho} {xs : List Str} {out : α → PyData}
    (src : Src g prog w k sc ρ t iter (l.map f)) (hb : ∀ a ∈ l, BindR t (f a) (inner scope ρ) (ρ' a) xs) (he : ∀ a ∈ l, Ev g prog w k (relabelS scope sc) φ (ρ' a) elt (out a))
    (hsz : l.length ≤ sizeLine) (hck : compOk scope sc = true := by decide) (hT : ownNames scope xs = true := by decide) (hf : ∀ env x, foldedSetIterable iter env x = pure x := by intro _ _; rfl) :
    Ev g prog w k sc φ ρ (.ListComp elt [⟨t, iter, [], 0⟩] scope pos) (.list (l.map out)) := by
  have := Ev.comp1 (p := fun _ => true) src hb (fun a _ => Trs.nil) (fun a m _ => he a m) hsz hck hT hf (pos := pos)
  rwa [List.filter_eq_self.mpr (fun _ _ => rfl)] at this
end
end Mine

namespace Mine
open Sem (wp)

end Mine

namespace Mine
open Sem (wp)

noncomputable def sortI (ns : List Int) : List Int := ns.mergeSort fun a b => decide (a ≤ b)
theorem sortI_perm (ns : List Int) : (sortI ns).Perm ns := List.mergeSort_perm ..
theorem sortI_le (ns : List Int) : (sortI ns).Pairwise (· ≤ ·) := by
  have := List.pairwise_mergeSort (le := fun a b : Int => decide (a ≤ b)) (fun a b c h1 h2 => by simp at h1 h2 ⊢; omega) (fun a b => by simp; omega) ns
  exact this.imp fun h => by simpa using h
theorem sortI_uniq {ns ns' : List Int} (hp : ns'.Perm ns) (hs : ns'.Pairwise (· ≤ ·)) : ns' = sortI ns :=
  List.Perm.eq_of_pairwise (fun a b _ _ h1 h2 => Int.le_antisymm h1 h2) hs (sortI_le ns) (hp.trans (sortI_perm ns).symm)
section
variable {g : G} {prog : Program} {w : World} {k j : Nat} {sc : Scope} {φ φ₁ φ₂ φ₃ : Bool} {ρ ρ' ρ₁ ρ₂ : Rho} {N N₂ : Addr → Prop} {env : Env} {e : Expr} {pos : Pos} {body rest : List Stmt}

theorem Fn.sortedL {ns : List Int} (h64 : ns.length < 64) : Fn g prog w k φ (.builtin "sorted") [.list (ns.map .int)] (.list ((sortI ns).map .int)) := by
  intro A N s vs Q E hr c dv hQ
  cases dv with
  | cons x r =>
    cases r
    obtain ⟨a, rfl⟩ := x.listRef
    obtain ⟨na, us, n, ea, ra⟩ := x.isList
    have hi := ra.ints
    have hl := hi.length
    refine sorted_ints (vs := us.toList) (by simpa using isList_of ea) hi (by omega) fun out ns' a1 a2 a3 => ?_
    obtain ⟨e, he⟩ := sortedAll_at s.heap us.toList out
    refine hQ _ s.toks _ (.ofKeep fun b o => sortedAll_old) (.list (fun q => ?_) he (DenL.of_ints (by rw [← sortI_uniq a2 a3]; exact a1)))
    have hf : s.heap.get? (s.heap.objs.size + 1) = none := by
      cases e : s.heap.get? (s.heap.objs.size + 1) with
      | none => rfl
      | some o => exact absurd (Heap.lt_size e) (Nat.not_lt.mpr (Nat.le_succ _))
    rcases q with q | q
    · exact c.fresh hf q
    · have := q.2; rw [hf] at this; cases this

end
end Mine

namespace Mine
open Sem (wp)

section
variable {g : G} {prog : Program} {w : World} {k j : Nat} {sc : Scope} {φ φ₁ φ₂ φ₃ : Bool} {ρ ρ' ρ₁ ρ₂ : Rho} {N N₂ : Addr → Prop} {env : Env} {e : Expr} {pos : Pos} {body rest : List Stmt}

/-- two plain names at once, from a pair that is written out -/
theorem RunN.swap2 {x y : Str} {p q tp : Pos} {kk : Nat} {e : Expr} {d₁ d₂ : PyData} (xe : Ev g prog w k sc φ ρ e (.tuple [d₁, d₂])) (hx : storable sc x = true) (hy : storable sc y = true)
    (hs1 : ∀ env, env.scope = sc → swapsWithSole [.Tuple [.Name x p, .Name y q] kk tp] e pos.line env = pure false) (hw : ∀ env, env.scope = sc → swappedStores [.Tuple [.Name x p, .Name y q] kk tp] e env = pure (some [x, y])) :
    RunN g prog w k sc ρ [.Assign [.Tuple [.Name x p, .Name y q] kk tp] e pos] ((x, d₁) :: (y, d₂) :: ρ) := by
  refine .of_exec fun A env N s Q E hs hr z hQ => ?_
  refine Assign_Tuple_swapped (names := [x, y]) (xe A env N s _ E hs hr z fun h₁ t₁ v m₁ d => ?_) (hs1 env hs) (hw env hs)
  obtain ⟨a, rfl⟩ := d.tupRef
  cases d with
  | @tuple a o vs nn _ ee hc hd rr =>
    cases hvs : vs.toList with
    | nil => rw [hvs] at rr; cases rr
    | cons u us =>
      rw [hvs] at rr
      cases rr with
      | cons du r2 =>
        cases r2 with
        | cons dv r3 =>
          cases r3
          rename_i v
          have hsz : vs.size = 2 := by rw [← Array.length_toList, hvs]; rfl
          show wpAny _ A (unpackItems (.ref a) 2 none) _ E _
          rw [← hsz]
          refine wpAny_unpackItems_tuple hr.handled ⟨o, ee, hc, nn, hd⟩ fun h' hx' => ?_
          rw [hvs]
          have hk : ∀ b o, h₁.get? b = some o → h'.get? b = some o := fun b o e => hx' b o (Nat.ne_of_lt (Heap.lt_size e)) e
          have z₁ := (z.gr m₁).gr (.ofKeep hk)
          show wpAny _ A (assignInOrder [bindName env y, bindName env x] [v, u]) _ E _
          have den' : ∀ {d : PyData} {v : Value}, Den w (fun a => N a ∨ (φ = true ∧ (s.heap.get? a).isSome)) h₁ d v → Den w N h' d v := fun x => (den_plain x).keeps hk
          refine assignInOrder_cons (bindName_ (store_sound (d := d₂) (s := { s with heap := h', toks := t₁ }) hs hy z₁ (den' dv) fun h₂ t₂ m₂ z₂ => ?_))
          refine assignInOrder_cons (bindName_ (store_sound (d := d₁) (s := { s with heap := h₂, toks := t₂ }) hs hx z₂ ((den' du).chg (m₂.chg z₁.cx.tabs fun a o => (z₁.ok.own a o.own).1) fun _ _ n => n) fun h₃ t₃ m₃ z₃ => wpAny_pure ?_))
          exact hQ h₃ t₃ ((((m₁.trans (.ofKeep hk)).mono fun _ q => q.elim).trans (m₂.mono fun a o => o.c)).trans (m₃.mono fun a o => o.c)) z₃

/-- clauses of two -/
theorem loop2 {α β : Type} {elt t iter t' iter' : Expr} {ifs ifs' : List Expr} {scope : Scope} {l : List α} {f : α → PyData} {ρ' : α → Rho} {xs xs' : List Str} {p : α → Bool} {l' : α → List β} {f' : α → β → PyData} {ρ'' : α → β → Rho} {p' : α → β → Bool} {out : α → β → PyData}
    (hb : ∀ a ∈ l, BindR t (f a) (inner scope ρ) (ρ' a) xs) (ht : ∀ a ∈ l, Trs g prog w k (relabelS scope sc) (ρ' a) ifs (p a)) (src' : ∀ a ∈ l, Src g prog w k (relabelS scope sc) (ρ' a) t' iter' ((l' a).map (f' a)))
    (hb' : ∀ a ∈ l, ∀ b ∈ l' a, BindR t' (f' a b) (ρ' a) (ρ'' a b) xs') (hk' : ∀ a ∈ l, (xs'.all fun x => (List.lookup x (ρ' a)).isNone) = true) (ht' : ∀ a ∈ l, ∀ b ∈ l' a, Trs g prog w k (relabelS scope sc) (ρ'' a b) ifs' (p' a b))
    (he : ∀ a ∈ l, ∀ b ∈ l' a, p' a b = true → Ev g prog w k (relabelS scope sc) φ (ρ'' a b) elt (out a b)) (hT : ownNames scope (xs ++ xs') = true) (hf' : ∀ env x, foldedSetIterable iter' env x = pure x) :
    LoopOk g prog w k (relabelS scope sc) φ (xs ++ xs') (.ListComp elt [⟨t, iter, ifs, 0⟩, ⟨t', iter', ifs', 0⟩] scope pos) 0 t (inner scope ρ) (l.map f) ((l.filter p).flatMap fun a => ((l' a).filter (p' a)).map (out a)) := by
  have hT1 : ownNames scope xs = true := by
    simp only [ownNames, List.all_append, Bool.and_eq_true] at hT ⊢; exact hT.1
  refine loop_more rfl rfl hf' hb (ownNames_none hT1) hT (by simp [List.all_eq_true]; exact fun x m => .inl m) ht (fun a m _ => src' a m) fun a m _ => ?_
  exact loop_last rfl rfl (hb' a m) (hk' a m) hT (by simp [List.all_eq_true]; exact fun x m => .inr m) (ht' a m) (he a m)

theorem bits_take {m n x : Nat} (hm : m ≤ n) (hx : x < 2 ^ m) : (bitsL m x ++ List.replicate n 0).take n = bitsL n x := by
  have e : n = m + (n - m) := by omega
  conv => rhs; rw [e, bitsL_split, Nat.mod_eq_of_lt hx, Nat.div_eq_of_lt hx, bitsL_zero]
  rw [List.take_append, bitsL_len, List.take_of_length_le (by rw [bitsL_len]; exact hm), List.take_replicate]
  congr 2; omega
end
end Mine

namespace Mine
open Sem (wp)

/-- a builtin that no global name hides -/
structure BN (g : G) (x : Str) (v : Value) : Prop where
  miss : g.mg x = none
  hit : g.mb x = some v
theorem BN.at {g : G} {x : Str} {v : Value} {sc : Scope} (b : BN g x v) (h : sc.names.lookup x = some .globalImplicit) : BName g sc x v := ⟨b.miss, b.hit, h⟩
structure FN (g : G) (x : Str) (f : Addr) : Prop where
  hit : g.mg x = some (.ref f)
  fd : ∃ o fd, g.base.get? f = some o ∧ o.data = .func fd
theorem FN.at {g : G} {x : Str} {f : Addr} {sc : Scope} (b : FN g x f) (h : sc.names.lookup x = some .globalImplicit) : FName g sc x f := ⟨b.hit, b.fd, h⟩

structure Bs (g : G) : Prop where
  range : BN g "range" (.type "range")
  len : BN g "len" (.builtin "len")
  int : BN g "int" (.type "int")
  sum : BN g "sum" (.builtin "sum")
  abs : BN g "abs" (.builtin "abs")
  sorted : BN g "sorted" (.builtin "sorted")
  list : BN g "list" (.type "list")
  isinstance : BN g "isinstance" (.builtin "isinstance")
  tuple : BN g "tuple" (.type "tuple")
  dict : BN g "dict" (.type "dict")
  zip : BN g "zip" (.type "zip")
  min : BN g "min" (.builtin "min")
  max : BN g "max" (.builtin "max")

section
variable {g : G} {prog : Program} {w : World} {k j : Nat} {sc : Scope} {φ φ₁ φ₂ φ₃ : Bool} {ρ ρ' ρ₁ ρ₂ : Rho} {N N₂ : Addr → Prop} {env : Env} {e : Expr} {pos : Pos} {body rest : List Stmt}

theorem pow2_fits {m : Nat} (h : m ≤ 20) : ((Builtin.Int.intBits 2 : Nat) : Int) * (m : Int) ≤ 2 ^ 27 := by
  have : Builtin.Int.intBits 2 = 2 := by decide
  rw [this]; omega
theorem Tr.cong {t u : Bool} (x : Tr g prog w k sc ρ e t) (h : t = u) : Tr g prog w k sc ρ e u := h ▸ x
theorem neNil {l r : Expr} {xs : List PyData} (x : Ev g prog w k sc φ₁ ρ l (.list xs)) (h : xs = []) (y : Ev g prog w k sc φ₂ ρ r (.list [])) (hm : behindInMarks .NotEq r = false := by rfl) : Tr g prog w k sc ρ (.Compare l [.NotEq] [r] pos) false := by
  subst h
  exact Tr.cmp x y (Op2.neD (x := .list []) (y := .list []) rfl rfl (by decide) (by decide)) hm
theorem intNe {l r : Expr} {a b : Int} (x : Ev g prog w k sc φ₁ ρ l (.int a)) (y : Ev g prog w k sc φ₂ ρ r (.int b)) (h : a = b) (hm : behindInMarks .NotEq r = false := by rfl) : Tr g prog w k sc ρ (.Compare l [.NotEq] [r] pos) false := by
  subst h
  exact (Tr.cmp x y Op2.neI hm).cong (by simp)
end
end Mine

namespace Mine
open Sem (wp)

section
variable {g : G} {prog : Program} {w : World} {k j : Nat} {sc : Scope} {φ φ₁ φ₂ φ₃ : Bool} {ρ ρ' ρ₁ ρ₂ : Rho} {N N₂ : Addr → Prop} {env : Env} {e : Expr} {pos : Pos} {body rest : List Stmt}

theorem getD_bits {r : List Int} (h : bits01 r) (i : Nat) : r.getD i 0 = 0 ∨ r.getD i 0 = 1 := by
  by_cases q : i < r.length
  · have := List.getElem?_eq_some_iff.mp (getD_of (d := (0 : Int)) q)
    rw [← this.2]; exact h _ (List.getElem_mem _)
  · left; simp [Nat.not_lt.mp q]
theorem mulSmall {a b : Int} (h1 : -(2 ^ 60) < a) (h2 : a < 2 ^ 60) : IntMulOk a b := IntMulOk.of_left (intBits_le_64 (by omega) (by omega))

/-- sum(row) of one of the rows -/
theorem ev_sum {r : List Int} {np : Pos} {er : Expr} (b : BName g sc "sum" (.builtin "sum")) (x : Ev g prog w k sc φ₁ ρ er (rowD r)) (he : ∀ env, starEach [er] env = [(false, eval er env)] := by intro _; rfl) : Ev g prog w k sc φ ρ (.Call (.Name "sum" np) [er] [] pos) (.int r.sum) :=
  Ev.fnB b (EvL.cons (φ := φ₁) x .nil he) Fn.sum (by decide) he (fun _ => rfl)

theorem LoopOk.eq {T : List Str} {depth : Nat} {tgt : Expr} {ds out out' : List PyData} (h : out = out') (x : LoopOk g prog w k sc φ T e depth tgt ρ ds out) : LoopOk g prog w k sc φ T e depth tgt ρ ds out' := h ▸ x
end
end Mine

namespace Mine
open Sem (wp)

section
variable {g : G} {prog : Program} {w : World} {k j : Nat} {sc : Scope} {φ φ₁ φ₂ φ₃ : Bool} {ρ ρ' ρ₁ ρ₂ : Rho} {N N₂ : Addr → Prop} {env : Env} {e : Expr} {pos : Pos} {body rest : List Stmt}

/-- an assignment of a comprehension to a plain local name; the caller says what is opened of it -/
theorem assignComp_core {elt t iter : Expr} {ifs : List Expr} {more : List Comprehension} {scope : Scope} {cpos npos : Pos} {ds out : List PyData} {T : List Str} {y : Str} {A : Around} {s : Shared} {Q : Flow → Shared → Prop} {E : Value → Shared → Prop}
    (x : Src g prog w k sc ρ t iter ds) (hl : LoopOk g prog w k (relabelS scope sc) φ T (.ListComp elt (⟨t, iter, ifs, 0⟩ :: more) scope cpos) 0 t (inner scope ρ) ds out)
    (hsz : out.length ≤ sizeLine) (hy : storable sc y = true) (hck : compOk scope sc = true) (hT : T.all (fun x => scope.names.lookup x == some .local || scope.names.lookup x == some .cell) = true) (hf : ∀ env x, foldedSetIterable iter env x = pure x)
    (hsw : ∀ env, env.scope = sc → swapsWith (.ListComp elt (⟨t, iter, ifs, 0⟩ :: more) scope cpos) (some (.Name y npos)) pos.line env = pure true) (hs : env.scope = sc) (hr : Room A k) (z : St g w N env s.heap ρ)
    (hQ : ∀ h₁ D C, Mv g noO s.heap h₁ → s.heap.get? D = none → s.heap.get? C = none → C ≠ D → (∃ m, h₁.Ns C m) → AccAt φ w (fun a => (N a ∨ a = C) ∨ (φ = true ∧ (s.heap.get? a).isSome)) h₁ D out →
      ∃ (O : Addr → Prop) (d' : PyData), (∀ a, O a → s.heap.get? a = none ∧ (h₁.get? a).isSome ∧ a ≠ C) ∧ Den w (fun a => N a ∨ (O a ∨ a = C)) h₁ d' (.ref D) ∧
        ∀ h' tk, Mv g (OwnC env) s.heap h' → (∀ b o, b ≠ C → s.heap.get? b = none → h₁.get? b = some o → h'.get? b = some o) → Chg (fun a => N a ∨ (O a ∨ a = C)) h₁ h' → St g w (fun a => N a ∨ O a) env h' ((y, d') :: ρ) → Q .next { s with heap := h', toks := tk }) :
    wpAny (model prog w) A (exec (.Assign [.Name y npos] (.ListComp elt (⟨t, iter, ifs, 0⟩ :: more) scope cpos) pos) env) Q E s := by
  obtain ⟨hkind, hnm⟩ := compOk_at hck
  obtain ⟨cl, hclos, hcl1, hcl2⟩ := closureFor_ok (scope := scope) (env := env) fun x m q => z.ok.has x.1 (by
    unfold Env.kindOf; rw [hs]
    exact (hnm x.1 x.2 m).2.1 q)
  rw [exec_Assign_Name_used _ _ _ _ (hsw env hs)]
  refine wpAny_bind (wpAny_standAt (wpAny_bind ?_))
  show wpAny _ A (do let _ ← comprehension (.ListComp elt (⟨t, iter, ifs, 0⟩ :: more) scope cpos) scope env _ (newList []) false (eval iter env) (some (PySem.assign (.Name y npos) env))) _ _ s
  refine wpAny_bind (wpAny_mono (wpAny_comprehension_free (use := some (PySem.assign (.Name y npos) env)) (Q := fun _ s' => Q .next s') rfl (hf env) hclos hkind (fun x m q => (hnm x.1 x.2 m).1.trans (by rw [q])) ?_) (fun _ s' hq => wpAny_pure (wpAny_pure hq)) fun _ _ e => e)
  refine comp_run hck hT hcl1 hcl2 x hl hsz hs hr z fun D C h₁ t₁ m₁ hD hC hCD hn ha => ?_
  obtain ⟨O, d', hO, dD, hQ'⟩ := hQ h₁ D C m₁ hD hC hCD hn ha
  obtain ⟨m', hn⟩ := hn
  have hCl : (h₁.get? C).isSome := ns_some hn
  have z₁ : St g w (fun a => N a ∨ (O a ∨ a = C)) env h₁ ρ := z.new m₁ fun a q => q.elim (fun q => ⟨(hO a q).1, (hO a q).2.1⟩) fun q => ⟨q ▸ hC, q ▸ hCl⟩
  have hoC : ¬ Own env C ∧ g.base.get? C = none ∧ ¬ g.T C := ⟨fun o => z.cx.fresh hC (z.ok.own C o).1, z.cx.baseFresh hC, fun t => z.cx.fresh hC (z.cx.tabs C t)⟩
  show wpAny _ A (PySem.assign (.Name y npos) env (.ref D)) _ _ _
  refine wpAny_assign_Name (store_sound (s := { s with heap := h₁, toks := t₁ }) hs hy z₁ dD fun h₂ t₂ m₂ z₂ => ?_)
  have hn₂ : h₂.Ns C m' := by
    obtain ⟨o, es, ep, e, r⟩ := hn
    exact ⟨o, es, ep, m₂.keep _ _ e (.inl ⟨hoC.2.2, fun q => hoC.1 q.own⟩), r⟩
  refine ⟨m', hn₂, fun h₃ hs₃ => ?_⟩
  have m₃ : MvX g (fun a => a = C) C h₂ h₃ := .one hs₃.extBut rfl hoC.2.2 (ns_not hn₂)
  have z₃ := (z₂.mvx m₃ (.inr (.inr rfl)) hoC).sub (N := fun a => N a ∨ O a) (fun a n => n.elim (fun n => ⟨.inl n, fun q => z.cx.fresh hC (q ▸ n)⟩) fun n => ⟨.inr (.inl n), (hO a n).2.2⟩) (.inl z.cx.mods) (fun a t => .inl (z.cx.tabs a t)) fun a o => .inl (z.ok.own a o).1
  have c₂ : Chg (fun a => N a ∨ (O a ∨ a = C)) h₁ h₂ := m₂.chg (fun a t => .inl (z.cx.tabs a t)) fun a o => .inl (z.ok.own a o.own).1
  have c₃ : Chg (fun a => N a ∨ (O a ∨ a = C)) h₂ h₃ := m₃.chg (fun a t => .inl (z.cx.tabs a t)) fun a o => .inr (.inr o)
  refine hQ' h₃ t₂ (MvX.fresh ((m₁.mono fun _ q => q.elim).trans (m₂.mono fun a o => o.c)) m₃ hC fun a q => .inr (q ▸ hC)) (fun b o hb hbn e => ?_) (c₂.trans c₃) z₃
  exact m₃.keep _ _ (m₂.keep _ _ e (.inl ⟨fun t => z.cx.fresh hbn (z.cx.tabs b t), fun q => z.cx.fresh hbn (z.ok.own b q.own).1⟩)) (.inl ⟨fun t => z.cx.fresh hbn (z.cx.tabs b t), hb⟩)

/-- a name's data read in another way -/
theorem St.recast {h : Heap} {x : Str} {d₁ d : PyData} (z : St g w N₂ env h ((x, d₁) :: ρ)) (hs : ∀ b, N b → N₂ b) (hm : N sysModules) (ht : ∀ b, g.T b → N b) (ho : ∀ b, Own env b → N b) (hd : ∀ v, Den w N₂ h d₁ v → Den w N h d v) : St g w N env h ((x, d) :: ρ) := by
  have z' := z.sub hs hm ht ho
  refine ⟨z'.cx, z'.ok, fun y e q => ?_⟩
  rw [List.lookup_cons] at q
  cases b : y == x with
  | true =>
    rw [b] at q; cases q
    obtain ⟨v, hv, dv⟩ := z.den x d₁ (by simp)
    rw [eq_of_beq b]
    exact ⟨_, hv, hd v dv⟩
  | false =>
    rw [b] at q
    exact z'.den y e (by rw [List.lookup_cons, b]; exact q)

end
end Mine

namespace Mine
open Sem (wp)

/-! a list has no keys -/
theorem lk_list_keys : typeLookup (.type "list") "keys" = pure none := am_miss_of_fast (by decide +kernel)
theorem lk_list_getattr : typeLookup (.type "list") "__getattr__" = pure none := am_miss_of_fast (by decide +kernel)
theorem list_ga_miss {prog : Program} {w : World} {A : Around} {R : Fin → Shared → Prop} {E : Value → Shared → Prop} {s : Shared} {a : Addr} {us : Array Value} {n : Nat} {u : Tok} (hA : A.handled = none)
    (hx : s.heap.get? a = some ⟨.type "list", none, .seq us n, #[]⟩) (h : ∀ h' tk e, Heap.NewAttrErr s.heap h' e (.ref a) "keys" → E (.ref e) { s with heap := h', toks := tk }) :
    wpAny (model prog w) A (Builtin.«object.__getattribute__» ⟨[.ref a, .str "keys" u], []⟩) R E s := by
  obtain ⟨hp, g, d, tk, os⟩ := s
  have hT : (⟨hp, g, d, tk, os⟩ : Shared).TypeIs (.ref a) "list" := ⟨_, hx, rfl⟩
  have f1 := lk_list_keys
  unfold Builtin.«object.__getattribute__»
  repeat (any_goals (first | assumption | wp_step))
  all_goals exact wpAny_raiseAttrError hA h (attrMsg_fits (by decide +kernel) (by decide))
theorem list_by_miss {prog : Program} {w : World} {A : Around} {Q E : Value → Shared → Prop} {s : Shared} {a : Addr} {us : Array Value} {n : Nat} {u : Tok} (hA : A.handled = none)
    (hx : s.heap.get? a = some ⟨.type "list", none, .seq us n, #[]⟩) (h : ∀ h' tk e, Heap.NewAttrErr s.heap h' e (.ref a) "keys" → E (.ref e) { s with heap := h', toks := tk }) :
    wpAny (model prog w) A (getAttrBy (.ref a) (.str "keys" u) false) Q E s := by
  obtain ⟨hp, g, d, tk, os⟩ := s
  have hT : (⟨hp, g, d, tk, os⟩ : Shared).TypeIs (.ref a) "list" := ⟨_, hx, rfl⟩
  have f1 := sub_AttributeError
  have f3 := F.slot_list_getattribute.lookup
  have f4 := F.slot_list_getattribute.bind (.ref a)
  have f5 := lk_list_getattr
  unfold getAttrBy
  repeat (any_goals (first | assumption | ((with_reducible show wpAny _ _ (call (Value.builtin "list.__getattribute__") _) _ _ _); refine wpAny_call_entry F.slot_list_getattribute ⟨_, hx, rfl⟩ am_entry_list_getattribute (list_ga_miss hA hx fun h' tk' e hx' => ?_) (F.args_list_getattribute_2 _ _)) | wp_step))
  obtain ⟨t', u', he⟩ := hx'.there
  repeat (any_goals (first | assumption | wp_step))
  all_goals exact h _ _ _ hx'
theorem list_attr_miss {prog : Program} {w : World} {A : Around} {Q : Option Value → Shared → Prop} {E : Value → Shared → Prop} {s : Shared} {a : Addr} {us : Array Value} {n : Nat} (hA : A.handled = none)
    (hx : s.heap.get? a = some ⟨.type "list", none, .seq us n, #[]⟩) (h : ∀ h' tk, (∀ b o, s.heap.get? b = some o → h'.get? b = some o) → Q none { s with heap := h', toks := tk }) :
    wpAny (model prog w) A (getAttr? (.ref a) "keys") Q E s := by
  obtain ⟨hp, g, d, tk, os⟩ := s
  have f1 := sub_AttributeError
  unfold getAttr? getAttrBy?
  repeat (any_goals (first | assumption | (with_reducible refine list_by_miss hA hx fun h' tk' e hx' => ?_) | wp_step))
  obtain ⟨t', u', he⟩ := hx'.there
  repeat (any_goals (first | assumption | wp_step))
  all_goals exact h _ _ hx'.keeps
end Mine

namespace Mine
open Sem (wp)

theorem entry_update_loop : entryFor table "dict.update.loop" = some Builtin.«dict.update.loop» := entryFor_of_tree (by kernel_rfl)
theorem plain_update_loop : plainId "dict.update.loop" = true := by decide +kernel

/-- a pair as a tuple object -/
noncomputable def PairAt (w : World) (h : Heap) (v : Value) (p : PyData × Int) : Prop :=
  ∃ a b n tk o, v = .ref a ∧ h.get? a = some o ∧ o.cls = .type "tuple" ∧ o.data = .seq #[.ref b, .int p.2 tk] n ∧ Den w (fun _ => False) h p.1 (.ref b)

section
variable {prog : Program} {w : World}

theorem pairItems_at {A : Around} {E : Value → Shared → Prop} {s : Shared} {v : Value} {p : PyData × Int} {Q : List Value → Shared → Prop} (hp : PairAt w s.heap v p)
    (h : ∀ b tk, Den w (fun _ => False) s.heap p.1 (.ref b) → Q [.ref b, .int p.2 tk] s) : wpAny (model prog w) A (Builtin.Dict.pairItems v) Q E s := by
  obtain ⟨a, b, n, tk, o, rfl, e, hc, hd, db⟩ := hp
  unfold Builtin.Dict.pairItems
  have hT : s.TypeIs (.ref a) "tuple" := ⟨_, e, hc⟩
  refine wpAny_bind (wpAny_typeOf hT ?_)
  rw [if_pos (by decide)]
  refine wpAny_bind (wpAny_seqItems e hd (wpAny_pure ?_))
  exact h b tk db

theorem upd_loop {t : List (PyData × Int)} {D I : Addr} {X : Nat → Heap → Prop} {base : Heap} {R : Result → Shared → Prop} {A : Around} (hu : A.units + 100 < cLine) (ht : tabOk t) (hsz : t.length ≤ sizeLine) (hDb : base.get? D = none)
    (frame : ∀ i h h', X i h → (∀ b o, b ≠ D → h.get? b = some o → h'.get? b = some o) → (h'.get? D).isSome → X i h')
    (step : ∀ i p (s : Shared) (Q : Option Value → Shared → Prop) (E : Value → Shared → Prop), t[i]? = some p → X i s.heap →
      (∀ h' tk v, X (i + 1) h' → PairAt w h' v p → (∀ o, s.heap.get? D = some o → h'.get? D = some o) → (i ≠ 0 → ∀ b o, s.heap.get? b = some o → TupObj o → h'.get? b = some o) → (∀ b o, base.get? b = some o → s.heap.get? b = some o → h'.get? b = some o) → Q (some v) { s with heap := h', toks := tk }) →
      wpAny (model prog w) A.in1 (pyNext (.ref I)) Q E s)
    (done : ∀ (s : Shared) (Q : Option Value → Shared → Prop) (E : Value → Shared → Prop), X t.length s.heap →
      (∀ h' tk, (∀ o, s.heap.get? D = some o → h'.get? D = some o) → (∀ b o, s.heap.get? b = some o → TupObj o → h'.get? b = some o) → (∀ b o, base.get? b = some o → s.heap.get? b = some o → h'.get? b = some o) → Q none { s with heap := h', toks := tk }) →
      wpAny (model prog w) A.in1 (pyNext (.ref I)) Q E s) :
    ∀ (j i : Nat) (s : Shared) (it : Tok), j = t.length - i → i ≤ t.length → X i s.heap → FD w s.heap D (t.take i) → (∀ b o, base.get? b = some o → s.heap.get? b = some o) →
      (∀ h' tk, FD w h' D t → (∀ b o, base.get? b = some o → h'.get? b = some o) → R (.ok (.ret .none)) { s with heap := h', toks := tk }) →
      codeAny (model prog w) A (.builtin "dict.update.loop" ⟨[.ref D, .ref I, .int i it, .none], []⟩) R s := by
  intro j
  induction j with
  | zero =>
    intro i s it hj hi x f hb hR
    have : i = t.length := by omega
    subst this
    refine codeAny_builtin entry_update_loop ?_
    rw [Around.under_plainId plain_update_loop]
    show wpAny _ _ (pyNext (.ref I) >>= _) _ _ _
    refine wpAny_bind (done s _ _ x fun h' tk kD kt kb => ?_)
    show wpAny _ _ (Builtin.Dict.addKeywords D [] >>= _) _ _ _
    refine wpAny_bind (wpAny_pure (wpAny_pure ?_))
    rw [List.take_length] at f
    exact hR h' tk (f.keep kD kt) fun b o e => kb b o e (hb b o e)
  | succ j ih =>
    intro i s it hj hi x f hb hR
    have hil : i < t.length := by omega
    obtain ⟨p, hp⟩ : ∃ p, t[i]? = some p := ⟨t[i], by simp [hil]⟩
    refine codeAny_builtin entry_update_loop ?_
    rw [Around.under_plainId plain_update_loop]
    show wpAny _ _ (pyNext (.ref I) >>= _) _ _ _
    refine wpAny_bind (step i p s _ _ hp x fun h₁ t₁ v x₁ pv kD kt kb => ?_)
    show wpAny _ _ (holding [v] _ >>= _) _ _ _
    refine wpAny_bind (wpAny_holding (wpAny_bind ?_))
    refine wpAny_tryCatch (pairItems_at pv fun b tk db => ?_)
    have f₁ : FD w h₁ D (t.take i) := by
      by_cases q : i = 0
      · subst q
        obtain ⟨es, n, y⟩ := f
        have y2 := y.2.1
        rw [List.take_zero] at y2
        cases y2
        exact ⟨[], n, kD _ y.1, .nil, .nil⟩
      · exact f.keep kD (kt q)
    obtain ⟨es, n, hat⟩ := f₁.at (fun a => a = D)
    have ik := ht.1 p (List.mem_of_getElem? hp)
    refine wpAny_holding (dictSet_den (N := fun a => a = D) (N₂ := fun _ => False) (dv := .int p.2) (by show A.units + 1 + 80 < cLine; omega) rfl hat ik db (.int _ _) (by rw [tabKV, List.length_map, List.length_take]; omega) fun h₂ t₂ es' n' hat₂ hs₂ c₂ => ?_)
    rw [tab_copy ht hp] at hat₂
    refine wpAny_pure ⟨Code.quiet_builtin _ (by decide +kernel), ?_⟩
    refine ih (i + 1) _ _ (by omega) (by omega) (frame _ _ _ x₁ (fun b o hbD e => hs₂.extBut b o hbD e) (by rw [hat₂.1]; rfl)) (FD.of hat₂) (fun b o e => ?_) fun h' tk f' k' => hR h' tk f' k'
    exact hs₂.extBut b o (fun q => by rw [q, hDb] at e; cases e) (kb b o e (hb b o e))
end
end Mine

namespace Mine
open Sem (wp)

noncomputable def pairsD (t : List (PyData × Int)) : PyData := .list (t.map fun p => .tuple [p.1, .int p.2])

section
variable {g : G} {prog : Program} {w : World} {k j : Nat} {φ : Bool}

theorem pair_den {N : Addr → Prop} {h : Heap} {p : PyData × Int} {v : Value} (ik : isKey p.1 = true) (x : Den w N h (.tuple [p.1, .int p.2]) v) : PairAt w h v p := by
  cases x with
  | @tuple a o vs n ds e hc hd r =>
    obtain ⟨l⟩ := vs
    simp only at r
    cases r with
    | cons x1 r =>
      cases r with
      | cons x2 r =>
        cases r
        cases x2 with
        | int i tk =>
          obtain ⟨b, rfl⟩ := keyRef ik x1
          exact ⟨a, b, n, tk, o, rfl, e, hc, hd, x1.falseN ik⟩

/-- dict(a list of pairs) -/
theorem Fn.dictPairs {t : List (PyData × Int)} (ht : tabOk t) (hsz : t.length ≤ sizeLine) : Fn g prog w k φ (.type "dict") [pairsD t] (tabD t) := by
  intro A N s vs Q E hr c dv hQ
  cases dv with
  | cons x r =>
    cases r
    obtain ⟨a, rfl⟩ := x.listRef
    obtain ⟨na, us, n, ea, ra⟩ := x.isList
    refine callType_codes (Q₁ := fun obj s₁ => obj = .ref s.heap.objs.size ∧ s₁ = { s with heap := s.heap.push { cls := .type "dict", data := .dict #[] } }) F.kt_called_dict (F.kt_typeCall_dict_1 _) F.entry_dict_init (kt_code_dict_new _ ⟨rfl, rfl⟩) ?_
    rintro obj s₁ ⟨rfl, rfl⟩
    have e1 : (s.heap.push { cls := .type "dict", data := .dict #[] }).get? a = some ⟨.type "list", none, .seq us n, #[]⟩ := Heap.get?_push_of_some _ ea
    have hD0 : s.heap.get? s.heap.objs.size = none := Heap.get?_none_of_le (Nat.le_refl _)
    have hnew : (s.heap.push { cls := .type "dict", data := .dict #[] }).get? s.heap.objs.size = some { cls := .type "dict", data := .dict #[] } := Heap.get?_push_size _ rfl
    have hT : ({ s with heap := s.heap.push { cls := .type "dict", data := .dict #[] } } : Shared).TypeIs (.ref s.heap.objs.size) "dict" := ⟨_, hnew, rfl⟩
    have hTl : ({ s with heap := s.heap.push { cls := .type "dict", data := .dict #[] } } : Shared).TypeIs (.ref a) "list" := ⟨_, e1, rfl⟩
    refine ⟨hT, F.args_dict_init_2 _ _, ?_⟩
    unfold Builtin.«dict.__init__»
    refine wpAny_bind ?_
    unfold Builtin.Dict.selfAndRest
    refine wpAny_bind (wpAny_notOrdered_dict hT ?_)
    show wpAny _ _ (pure (s.heap.objs.size, [Value.ref a])) _ _ _
    refine wpAny_pure ?_
    show wpAny _ _ (Builtin.Dict.updateFrom "dict.__init__" s.heap.objs.size (.ref a) [] .none) _ _ _
    unfold Builtin.Dict.updateFrom
    refine wpAny_bind (wpAny_typeOf hTl ?_)
    rw [if_pos (by decide)]
    refine wpAny_bind (list_attr_miss (A := A.in1.in1) hr.handled e1 fun h₁ t₁ k₁ => ?_)
    rw [if_pos (show (none : Option Value).isNone = true from rfl)]
    refine wpAny_bind (wpAny_rule ?_)
    have e₁ := k₁ _ _ e1
    have hD₁ := k₁ _ _ hnew
    have hI0 : h₁.get? h₁.objs.size = none := Heap.get?_none_of_le (Nat.le_refl _)
    have hDI : s.heap.objs.size ≠ h₁.objs.size := fun q => by rw [q, hI0] at hD₁; cases hD₁
    have base1 : ∀ b o, s.heap.get? b = some o → h₁.get? b = some o := fun b o e => k₁ b o (Heap.get?_push_of_some _ e)
    have baseI : s.heap.get? h₁.objs.size = none := by
      cases e : s.heap.get? h₁.objs.size with
      | none => rfl
      | some o => rw [base1 _ _ e] at hI0; cases hI0
    refine wpAny_bind (wpAny_pyIter_list (isList_of e₁) ?_)
    have push1 : ∀ b o, h₁.get? b = some o → (h₁.push { cls := .type "list_iterator", data := .fields #[.ref a, .int 0 0] }).get? b = some o := fun b o e => Heap.get?_push_of_some _ e
    refine wpAny_pure ⟨Code.quiet_builtin _ (by decide +kernel), ?_⟩
    have hlen := ra.length
    simp only [List.length_map, Array.length_toList] at hlen
    have soft : ∀ {h : Heap} {i : Nat}, h.IsListIter h₁.objs.size a i → ∀ b o, h.get? b = some o → TupObj o → b ≠ h₁.objs.size := fun hit b o e to q => by
      obtain ⟨o', e', hc, hd⟩ := hit
      rw [q, e'] at e; cases e
      exact absurd (hc.symm.trans to.1) (by decide)
    refine upd_loop (t := t) (D := s.heap.objs.size) (I := h₁.objs.size) (base := s.heap) (A := A.in1) (X := fun i h => h.IsListIter h₁.objs.size a i ∧ ∀ b o, s.heap.get? b = some o → h.get? b = some o)
      (by have := hr.units; show A.units + 1 + 100 < cLine; omega) ht hsz hD0 (fun i h h' x k _ => ⟨by obtain ⟨o, e, r⟩ := x.1; exact ⟨o, k _ _ (Ne.symm hDI) e, r⟩, fun b o e => k b o (fun q => by rw [q, hD0] at e; cases e) (x.2 b o e)⟩)
      (fun i p s' Q' E' hp x hQ' => ?_) (fun s' Q' E' x hQ' => ?_) t.length 0 _ 0 rfl (Nat.zero_le _) ⟨⟨_, Heap.get?_push_size _ rfl, rfl, rfl⟩, fun b o e => push1 b o (base1 b o e)⟩ ⟨[], 0, push1 _ _ hD₁, .nil, .nil⟩ (fun b o e => push1 b o (base1 b o e)) fun h' tk f kb => ?_
    · obtain ⟨v, hv, dv⟩ := ra.get (i := i) (d := .tuple [p.1, .int p.2]) (by rw [List.getElem?_map, hp]; rfl)
      have pv := pair_den (ht.1 p (List.mem_of_getElem? hp)) dv
      refine wpAny_pyNext_list_item x.1 (isList_of (x.2 _ _ ea)) (by simpa using hv) fun h' hit' hs => ?_
      have kb : ∀ b o, s.heap.get? b = some o → s'.heap.get? b = some o → h'.get? b = some o := fun b o e e' => hs.extBut b o (fun q => by rw [q, baseI] at e; cases e) e'
      have kb' : ∀ b o, s.heap.get? b = some o → h'.get? b = some o := fun b o e => kb b o e (x.2 b o e)
      refine hQ' h' s'.toks v ⟨hit', kb'⟩ ?_ (fun o e => hs.extBut _ o hDI e) (fun _ b o e to => hs.extBut b o (soft x.1 b o e to) e) kb
      obtain ⟨a', b', n', tk', o', q1, q2, q3, q4, q5⟩ := pv
      exact ⟨a', b', n', tk', o', q1, kb' _ _ q2, q3, q4, q5.chg (.of kb') fun _ _ n => n⟩
    · refine wpAny_pyNext_list_end (A := A.in1.in1) hr.handled x.1 (isList_of (x.2 _ _ ea)) (by rw [hlen]; simp) fun h' he => ?_
      exact hQ' h' s'.toks (fun o e => he _ o hDI e) (fun b o e to => he b o (soft x.1 b o e to) e) fun b o e e' => he b o (fun q => by rw [q, baseI] at e; cases e) e'
    · refine ⟨rfl, hQ h' tk _ (.ofKeep kb) ?_⟩
      obtain ⟨es, n', hat⟩ := f.at (fun a => N a ∨ (φ = true ∧ (s.heap.get? a).isSome))
      refine hat.den fun q => ?_
      rcases q with q | q
      · exact c.fresh hD0 q
      · rw [hD0] at q; exact absurd q.2 (by simp)
end
end Mine

namespace Mine
open Sem (wp)

/-! a zip whose tuple is still held -/
noncomputable def ZipB (h : Heap) (z TI TO T : Addr) (b : Bool) : Prop := h.get? z = some { cls := .type "zip", dict := none, data := .fields #[rawInt T, .bool b, .bool false, .ref TI, .ref TO], slots := #[] }

theorem wpAny_loadIfAlive {M : Model} {A : Around} {E : Value → Shared → Prop} {s : Shared} {a : Addr} {Q : Option Obj → Shared → Prop} (h : Q (s.heap.get? a) s) : wpAny M A (loadIfAlive a) Q E s := fun Γ p _ => by
  show wp M Γ (.loadIfAlive a .pure) _ _ p s
  rw [Sem.wp_loadIfAlive]
  exact h

section
variable {prog : Program} {w : World} {A : Around} {E : Value → Shared → Prop} {s : Shared}

theorem zip_busy_item {z TI TO T i1 i2 l1 l2 : Addr} {b : Bool} {k1 k2 : Nat} {xs ys : Array Value} {x y : Value} {Q : Value → Shared → Prop} (D : ZipApart z TI TO i1 i2 l1 l2)
    (hz : ZipB s.heap z TI TO T b) (hTI : IsPair s.heap TI (.ref i1) (.ref i2)) (hT : (s.heap.get? T).isSome)
    (h1 : s.heap.IsListIter i1 l1 k1) (h2 : s.heap.IsListIter i2 l2 k2) (hl1 : s.heap.IsList l1 xs) (hl2 : s.heap.IsList l2 ys) (hx : xs[k1]? = some x) (hy : ys[k2]? = some y)
    (hQ : ∀ h' r, ZipB h' z TI TO T true → h'.IsListIter i1 l1 (k1 + 1) → h'.IsListIter i2 l2 (k2 + 1) → IsPair h' r x y →
      (∀ c o, c ≠ z → c ≠ i1 → c ≠ i2 → s.heap.get? c = some o → h'.get? c = some o) → Q (.ref r) { s with heap := h' }) :
    wpAny (model prog w) A (Builtin.«zip.__next__» ⟨[.ref z], []⟩) (fun fin s' => ∃ v, fin = .done (.ret v) ∧ Q v s') E s := by
  show wpAny _ _ (field (.ref z) 2 >>= _) _ _ _
  refine wpAny_bind (wpAny_field hz rfl (x := .bool false) rfl ?_)
  show wpAny _ _ (field (.ref z) 3 >>= _) _ _ _
  refine wpAny_bind (wpAny_field hz rfl (x := .ref TI) rfl ?_)
  refine wpAny_bind (wpAny_seqItems hTI rfl ?_)
  show wpAny _ _ (Builtin.SmallTypes.ownedTupleIsFree (.ref z) >>= _) _ _ _
  refine wpAny_bind ?_
  unfold Builtin.SmallTypes.ownedTupleIsFree
  refine wpAny_bind (wpAny_field hz rfl (x := rawInt T) rfl ?_)
  show wpAny _ _ (loadIfAlive ((T : Int).toNat) >>= _) _ _ _
  refine wpAny_bind (wpAny_loadIfAlive ?_)
  rw [Int.toNat_natCast]
  obtain ⟨oT, hoT⟩ := Option.isSome_iff_exists.mp hT
  rw [hoT]
  rw [if_neg (by simp)]
  refine wpAny_bind (wpAny_field hz rfl (x := .bool b) rfl ?_)
  refine wpAny_mono (Q := fun a s' => a = false ∧ ∃ h₁, s' = { s with heap := h₁ } ∧ ZipB h₁ z TI TO T true ∧ (∀ c o, c ≠ z → s.heap.get? c = some o → h₁.get? c = some o)) ?_ ?_ fun _ _ x => x
  · cases b with
    | false =>
      rw [if_pos (by decide)]
      exact wpAny_bind (wpAny_setField_rec hz (by simp) fun h₁ hz₁ hs₁ => wpAny_pure ⟨rfl, h₁, rfl, hz₁, fun c o q e => hs₁.extBut _ _ q e⟩)
    | true =>
      rw [if_neg (by decide)]
      exact wpAny_pure ⟨rfl, s.heap, rfl, hz, fun c o q e => e⟩
  · rintro a s' ⟨rfl, h₁, rfl, hz₁, hk₁⟩
    rw [if_neg (by decide)]
    show wpAny _ _ (forIn #[Value.ref i1, Value.ref i2] _ _ >>= _) _ _ _
    rw [← Array.forIn_toList]
    simp only [List.forIn_cons, List.forIn_nil]
    have li1 : h₁.IsListIter i1 l1 k1 := h1.at fun o e => hk₁ _ _ D.i1z e
    have li2 : h₁.IsListIter i2 l2 k2 := h2.at fun o e => hk₁ _ _ D.i2z e
    refine wpAny_bind (wpAny_bind (wpAny_bind (wpAny_holding ?_)))
    show wpAny _ _ (Builtin.SmallTypes.nextOf (.ref i1) >>= _) _ _ _
    have ll1 : h₁.IsList l1 xs := by obtain ⟨o, e, r⟩ := hl1; exact ⟨o, hk₁ _ _ D.l1z e, r⟩
    have ll2 : h₁.IsList l2 ys := by obtain ⟨o, e, r⟩ := hl2; exact ⟨o, hk₁ _ _ D.l2z e, r⟩
    refine wpAny_bind (wpAny_nextOf_list_item (s := { s with heap := h₁ }) li1 ll1 hx fun h₂ h1₂ hs₂ => wpAny_pure ?_)
    refine wpAny_pure ?_
    refine wpAny_bind (wpAny_bind (wpAny_holding ?_))
    show wpAny _ _ (Builtin.SmallTypes.nextOf (.ref i2) >>= _) _ _ _
    refine wpAny_bind (wpAny_nextOf_list_item (s := { s with heap := h₂ }) (li2.extBut hs₂.extBut D.i12.symm) (ll2.extBut hs₂.extBut D.l2i1) hy fun h₃ h2₃ hs₃ => wpAny_pure ?_)
    refine wpAny_pure (wpAny_pure ?_)
    show wpAny _ _ (newTuple [x, y] >>= _) _ _ _
    refine wpAny_bind (wpAny_newTuple (wpAny_pure ⟨_, rfl, ?_⟩))
    have k3 : ∀ c o, c ≠ i1 → c ≠ i2 → h₁.get? c = some o → h₃.get? c = some o := fun c o q1 q2 e => hs₃.extBut _ _ q2 (hs₂.extBut _ _ q1 e)
    exact hQ _ _ (Heap.get?_push_of_some _ (k3 _ _ D.i1z.symm D.i2z.symm hz₁)) ((h1₂.extBut hs₃.extBut D.i12).at fun o e => Heap.get?_push_of_some _ e) (h2₃.at fun o e => Heap.get?_push_of_some _ e) (Heap.get?_push_size _ rfl)
      fun c o q q1 q2 e => Heap.get?_push_of_some _ (k3 c o q1 q2 (hk₁ c o q e))

theorem zip_busy_end {z TI TO T i1 i2 l1 l2 : Addr} {b : Bool} {k1 : Nat} {xs : Array Value} {Q : PySem.Fin → Shared → Prop} (hh : A.handled = none) (D : ZipApart z TI TO i1 i2 l1 l2)
    (hz : ZipB s.heap z TI TO T b) (hTI : IsPair s.heap TI (.ref i1) (.ref i2)) (hT : (s.heap.get? T).isSome)
    (h1 : s.heap.IsListIter i1 l1 k1) (hl1 : s.heap.IsList l1 xs) (hx : xs[k1]? = none)
    (hE : ∀ h' e, (∀ c o, c ≠ z → c ≠ i1 → s.heap.get? c = some o → h'.get? c = some o) → (∃ o, h'.get? e = some o ∧ o.cls = .type "StopIteration") → E (.ref e) { s with heap := h' }) :
    wpAny (model prog w) A (Builtin.«zip.__next__» ⟨[.ref z], []⟩) Q E s := by
  show wpAny _ _ (field (.ref z) 2 >>= _) _ _ _
  refine wpAny_bind (wpAny_field hz rfl (x := .bool false) rfl ?_)
  show wpAny _ _ (field (.ref z) 3 >>= _) _ _ _
  refine wpAny_bind (wpAny_field hz rfl (x := .ref TI) rfl ?_)
  refine wpAny_bind (wpAny_seqItems hTI rfl ?_)
  show wpAny _ _ (Builtin.SmallTypes.ownedTupleIsFree (.ref z) >>= _) _ _ _
  refine wpAny_bind ?_
  unfold Builtin.SmallTypes.ownedTupleIsFree
  refine wpAny_bind (wpAny_field hz rfl (x := rawInt T) rfl ?_)
  show wpAny _ _ (loadIfAlive ((T : Int).toNat) >>= _) _ _ _
  refine wpAny_bind (wpAny_loadIfAlive ?_)
  rw [Int.toNat_natCast]
  obtain ⟨oT, hoT⟩ := Option.isSome_iff_exists.mp hT
  rw [hoT]
  rw [if_neg (by simp)]
  refine wpAny_bind (wpAny_field hz rfl (x := .bool b) rfl ?_)
  refine wpAny_mono (Q := fun a s' => a = false ∧ ∃ h₁, s' = { s with heap := h₁ } ∧ ZipB h₁ z TI TO T true ∧ (∀ c o, c ≠ z → s.heap.get? c = some o → h₁.get? c = some o)) ?_ ?_ fun _ _ x => x
  · cases b with
    | false =>
      rw [if_pos (by decide)]
      exact wpAny_bind (wpAny_setField_rec hz (by simp) fun h₁ hz₁ hs₁ => wpAny_pure ⟨rfl, h₁, rfl, hz₁, fun c o q e => hs₁.extBut _ _ q e⟩)
    | true =>
      rw [if_neg (by decide)]
      exact wpAny_pure ⟨rfl, s.heap, rfl, hz, fun c o q e => e⟩
  · rintro a s' ⟨rfl, h₁, rfl, hz₁, hk₁⟩
    rw [if_neg (by decide)]
    show wpAny _ _ (forIn #[Value.ref i1, Value.ref i2] _ _ >>= _) _ _ _
    rw [← Array.forIn_toList]
    simp only [List.forIn_cons, List.forIn_nil]
    have li1 : h₁.IsListIter i1 l1 k1 := h1.at fun o e => hk₁ _ _ D.i1z e
    have ll1 : h₁.IsList l1 xs := by obtain ⟨o, e, r⟩ := hl1; exact ⟨o, hk₁ _ _ D.l1z e, r⟩
    refine wpAny_bind (wpAny_bind (wpAny_bind (wpAny_holding ?_)))
    show wpAny _ _ (Builtin.SmallTypes.nextOf (.ref i1) >>= _) _ _ _
    exact wpAny_bind (wpAny_nextOf_list_end (s := { s with heap := h₁ }) hh li1 ll1 hx fun h₂ e hs₂ he => hE h₂ e (fun c o q1 q2 e => hs₂ _ _ q2 (hk₁ _ _ q1 e)) he)

theorem pyNext_zip_busy_item {z TI TO T i1 i2 l1 l2 : Addr} {b : Bool} {k1 k2 : Nat} {xs ys : Array Value} {x y : Value} {Q : Option Value → Shared → Prop} (D : ZipApart z TI TO i1 i2 l1 l2)
    (hz : ZipB s.heap z TI TO T b) (hTI : IsPair s.heap TI (.ref i1) (.ref i2)) (hT : (s.heap.get? T).isSome)
    (h1 : s.heap.IsListIter i1 l1 k1) (h2 : s.heap.IsListIter i2 l2 k2) (hl1 : s.heap.IsList l1 xs) (hl2 : s.heap.IsList l2 ys) (hx : xs[k1]? = some x) (hy : ys[k2]? = some y)
    (hQ : ∀ h' r, ZipB h' z TI TO T true → h'.IsListIter i1 l1 (k1 + 1) → h'.IsListIter i2 l2 (k2 + 1) → IsPair h' r x y →
      (∀ c o, c ≠ z → c ≠ i1 → c ≠ i2 → s.heap.get? c = some o → h'.get? c = some o) → Q (some (.ref r)) { s with heap := h' }) :
    wpAny (model prog w) A (pyNext (.ref z)) Q E s := by
  have hTy : s.TypeIs (.ref z) "zip" := ⟨_, hz, rfl⟩
  unfold pyNext
  exact wpAny_bind (wpAny_attempt (wpAny_callSpecial?_slot (name := Str.ofString "__next__") hTy F.slot_zip_next
    (wpAny_call_entry F.slot_zip_next hTy F.entry_zip_next
      (zip_busy_item D hz hTI hT h1 h2 hl1 hl2 hx hy fun h' r a1 a2 a3 a4 a5 => wpAny_pure (hQ h' r a1 a2 a3 a4 a5)) (F.args_zip_next_1 _))))
theorem pyNext_zip_busy_end {z TI TO T i1 i2 l1 l2 : Addr} {b : Bool} {k1 : Nat} {xs : Array Value} {Q : Option Value → Shared → Prop} (hh : A.handled = none) (D : ZipApart z TI TO i1 i2 l1 l2)
    (hz : ZipB s.heap z TI TO T b) (hTI : IsPair s.heap TI (.ref i1) (.ref i2)) (hT : (s.heap.get? T).isSome)
    (h1 : s.heap.IsListIter i1 l1 k1) (hl1 : s.heap.IsList l1 xs) (hx : xs[k1]? = none)
    (hQ : ∀ h', (∀ c o, c ≠ z → c ≠ i1 → s.heap.get? c = some o → h'.get? c = some o) → Q none { s with heap := h' }) : wpAny (model prog w) A (pyNext (.ref z)) Q E s := by
  have hTy : s.TypeIs (.ref z) "zip" := ⟨_, hz, rfl⟩
  unfold pyNext
  refine wpAny_bind (wpAny_attempt (wpAny_callSpecial?_slot (name := Str.ofString "__next__") hTy F.slot_zip_next
    (wpAny_call_entry F.slot_zip_next hTy F.entry_zip_next (zip_busy_end hh D hz hTI hT h1 hl1 hx fun h' e hk he => ?_) (F.args_zip_next_1 _))))
  obtain ⟨o, ho, hc⟩ := he
  refine wpAny_bind (wpAny_isInstance (T := "StopIteration") (b := true) ⟨o, ho, hc⟩ isSubtype_stop ?_)
  exact wpAny_pure (hQ _ hk)
end
end Mine

namespace Mine
open Sem (wp)

/-! a zip has no keys -/
theorem lk_zip_keys : typeLookup (.type "zip") "keys" = pure none := am_miss_of_fast (by decide +kernel)
theorem lk_zip_getattr : typeLookup (.type "zip") "__getattr__" = pure none := am_miss_of_fast (by decide +kernel)
theorem zip_ga_miss {prog : Program} {w : World} {A : Around} {R : Fin → Shared → Prop} {E : Value → Shared → Prop} {s : Shared} {a : Addr} {us : Array Value} {u : Tok} (hA : A.handled = none)
    (hx : s.heap.get? a = some ⟨.type "zip", none, .fields us, #[]⟩) (h : ∀ h' tk e, Heap.NewAttrErr s.heap h' e (.ref a) "keys" → E (.ref e) { s with heap := h', toks := tk }) :
    wpAny (model prog w) A (Builtin.«object.__getattribute__» ⟨[.ref a, .str "keys" u], []⟩) R E s := by
  obtain ⟨hp, g, d, tk, os⟩ := s
  have hT : (⟨hp, g, d, tk, os⟩ : Shared).TypeIs (.ref a) "zip" := ⟨_, hx, rfl⟩
  have f1 := lk_zip_keys
  unfold Builtin.«object.__getattribute__»
  repeat (any_goals (first | assumption | wp_step))
  all_goals exact wpAny_raiseAttrError hA h (attrMsg_fits (by decide +kernel) (by decide))
theorem entry_zip_ga : entryFor table "zip.__getattribute__" = some Builtin.«object.__getattribute__» :=
  entryFor_alias (id' := "object.__getattribute__") (by kernel_rfl) (by first | rfl | decide +kernel) (by decide +kernel) (by kernel_rfl)
theorem zip_by_miss {prog : Program} {w : World} {A : Around} {Q E : Value → Shared → Prop} {s : Shared} {a : Addr} {us : Array Value} {u : Tok} (hA : A.handled = none)
    (hx : s.heap.get? a = some ⟨.type "zip", none, .fields us, #[]⟩) (h : ∀ h' tk e, Heap.NewAttrErr s.heap h' e (.ref a) "keys" → E (.ref e) { s with heap := h', toks := tk }) :
    wpAny (model prog w) A (getAttrBy (.ref a) (.str "keys" u) false) Q E s := by
  obtain ⟨hp, g, d, tk, os⟩ := s
  have hT : (⟨hp, g, d, tk, os⟩ : Shared).TypeIs (.ref a) "zip" := ⟨_, hx, rfl⟩
  have f1 := sub_AttributeError
  have f3 := F.slot_zip_getattribute.lookup
  have f4 := F.slot_zip_getattribute.bind (.ref a)
  have f5 := lk_zip_getattr
  unfold getAttrBy
  repeat (any_goals (first | assumption | ((with_reducible show wpAny _ _ (call (Value.builtin "zip.__getattribute__") _) _ _ _); refine wpAny_call_entry F.slot_zip_getattribute ⟨_, hx, rfl⟩ entry_zip_ga (zip_ga_miss hA hx fun h' tk' e hx' => ?_) (F.args_zip_getattribute_2 _ _)) | wp_step))
  obtain ⟨t', u', he⟩ := hx'.there
  repeat (any_goals (first | assumption | wp_step))
  all_goals exact h _ _ _ hx'
theorem zip_attr_miss {prog : Program} {w : World} {A : Around} {Q : Option Value → Shared → Prop} {E : Value → Shared → Prop} {s : Shared} {a : Addr} {us : Array Value} (hA : A.handled = none)
    (hx : s.heap.get? a = some ⟨.type "zip", none, .fields us, #[]⟩) (h : ∀ h' tk, (∀ b o, s.heap.get? b = some o → h'.get? b = some o) → Q none { s with heap := h', toks := tk }) :
    wpAny (model prog w) A (getAttr? (.ref a) "keys") Q E s := by
  obtain ⟨hp, g, d, tk, os⟩ := s
  have f1 := sub_AttributeError
  unfold getAttr? getAttrBy?
  repeat (any_goals (first | assumption | (with_reducible refine zip_by_miss hA hx fun h' tk' e hx' => ?_) | wp_step))
  obtain ⟨t', u', he⟩ := hx'.there
  repeat (any_goals (first | assumption | wp_step))
  all_goals exact h _ _ hx'.keeps
end Mine

namespace Mine
open Sem (wp)

section
variable {g : G} {prog : Program} {w : World} {k j : Nat} {φ : Bool}

/-- dict(zip(a, b)) at the heap -/
theorem dict_zip_call {t : List (PyData × Int)} (hne0 : t ≠ []) (ht : tabOk t) (hsz : t.length ≤ sizeLine) {A : Around} {N : Addr → Prop} {s : Shared} {l1 l2 : Addr} {us vs : Array Value} {n m : Nat} {Q : Value → Shared → Prop} {E : Value → Shared → Prop} (hr : Room A k) (c : Cx g N s.heap)
    (e1 : s.heap.get? l1 = some ⟨.type "list", none, .seq us n, #[]⟩) (e2 : s.heap.get? l2 = some ⟨.type "list", none, .seq vs m, #[]⟩) (r1 : DenL w N s.heap (t.map (·.1)) us.toList) (r2 : DenL w N s.heap (t.map fun p => .int p.2) vs.toList)
    (hQ : ∀ h' tk r, Mv g noO s.heap h' → Den w (fun a => N a ∨ (φ = true ∧ (s.heap.get? a).isSome)) h' (tabD t) r → Q r { s with heap := h', toks := tk }) :
    wpAny (model prog w) A (call (.type "zip") [.ref l1, .ref l2]) (fun z s' => wpAny (model prog w) A (call (.type "dict") [z]) Q E s') E s := by
  refine call_zip_2 (isList_of e1) (isList_of e2) fun h' hz hTI hTO h1 h2 hsz' hk => ?_
  generalize hh0 : s.heap.objs.size = L at hz hTI hTO h1 h2 hsz'
  have hnone : ∀ i, s.heap.get? (L + i) = none := fun i => Heap.get?_none_of_le (by omega)
  refine callType_codes (Q₁ := fun obj s₁ => obj = .ref h'.objs.size ∧ s₁ = { s with heap := h'.push { cls := .type "dict", data := .dict #[] } }) F.kt_called_dict (F.kt_typeCall_dict_1 _) F.entry_dict_init (kt_code_dict_new (s := { s with heap := h' }) _ ⟨rfl, rfl⟩) ?_
  rintro obj s₁ ⟨rfl, rfl⟩
  have up : ∀ b o, h'.get? b = some o → (h'.push { cls := .type "dict", data := .dict #[] }).get? b = some o := fun b o e => Heap.get?_push_of_some _ e
  have hnew : (h'.push { cls := .type "dict", data := .dict #[] }).get? h'.objs.size = some { cls := .type "dict", data := .dict #[] } := Heap.get?_push_size _ rfl
  have hT : ({ s with heap := h'.push { cls := .type "dict", data := .dict #[] } } : Shared).TypeIs (.ref h'.objs.size) "dict" := ⟨_, hnew, rfl⟩
  have hTz : ({ s with heap := h'.push { cls := .type "dict", data := .dict #[] } } : Shared).TypeIs (.ref (L + 4)) "zip" := ⟨_, up _ _ hz, rfl⟩
  refine ⟨hT, F.args_dict_init_2 _ _, ?_⟩
  unfold Builtin.«dict.__init__»
  refine wpAny_bind ?_
  unfold Builtin.Dict.selfAndRest
  refine wpAny_bind (wpAny_notOrdered_dict hT ?_)
  show wpAny _ _ (pure (h'.objs.size, [Value.ref (L + 4)])) _ _ _
  refine wpAny_pure ?_
  show wpAny _ _ (Builtin.Dict.updateFrom "dict.__init__" h'.objs.size (.ref (L + 4)) [] .none) _ _ _
  unfold Builtin.Dict.updateFrom
  refine wpAny_bind (wpAny_typeOf hTz ?_)
  rw [if_pos (by decide)]
  refine wpAny_bind (zip_attr_miss (A := A.in1.in1) hr.handled (up _ _ hz) fun h₁ t₁ k₁ => ?_)
  rw [if_pos (show (none : Option Value).isNone = true from rfl)]
  refine wpAny_bind (wpAny_rule ?_)
  have k1 : ∀ b o, h'.get? b = some o → h₁.get? b = some o := fun b o e => k₁ b o (up b o e)
  refine wpAny_bind (wpAny_pyIter_zip (k1 _ _ hz) ?_)
  refine wpAny_pure ⟨Code.quiet_builtin _ (by decide +kernel), ?_⟩
  have hD0 : s.heap.get? h'.objs.size = none := by rw [hsz']; exact hnone 5
  have hlt : ∀ b o, s.heap.get? b = some o → b < L := fun b o e => hh0 ▸ Heap.lt_size e
  have b1 : @LT.lt Nat _ l1 L := hlt _ _ e1
  have b2 : @LT.lt Nat _ l2 L := hlt _ _ e2
  have ap : ZipApart (L + 4) (L + 2) (L + 3) L (L + 1) l1 l2 := by constructor <;> (show (_ : Nat) ≠ _) <;> omega
  have hne : ∀ i, i < 5 → @Ne Nat (L + i) h'.objs.size := fun i hi => by rw [hsz']; omega
  have n1 := r1.length
  have n2 := r2.length
  simp only [List.length_map, Array.length_toList] at n1 n2
  refine upd_loop (t := t) (D := h'.objs.size) (I := L + 4) (base := s.heap) (A := A.in1) (X := fun i h => (∀ b o, s.heap.get? b = some o → h.get? b = some o) ∧ IsPair h (L + 2) (.ref L) (.ref (L + 1)) ∧ h.IsListIter L l1 i ∧ h.IsListIter (L + 1) l2 i ∧ (h.get? h'.objs.size).isSome ∧
      ((i = 0 ∧ IsZip h (L + 4) (L + 2) (L + 3) .none ∧ IsPair h (L + 3) .none .none) ∨ ∃ T b, T ≠ h'.objs.size ∧ ZipB h (L + 4) (L + 2) (L + 3) T b ∧ (h.get? T).isSome))
    (by have := hr.units; show A.units + 1 + 100 < cLine; omega) ht hsz hD0 (fun i ha hb x k d => ?_) (fun i p s' Q' E' hp x hQ' => ?_) (fun s' Q' E' x hQ' => ?_) t.length 0 _ 0 rfl (Nat.zero_le _) ?_ ⟨[], 0, k₁ _ _ hnew, .nil, .nil⟩ (fun b o e => k1 _ _ (hk _ _ e)) fun h'' tk f kb => ?_
  · obtain ⟨x1, x2, x3, x4, x5, x6⟩ := x
    refine ⟨fun b o e => k b o (fun q => by rw [q, hD0] at e; cases e) (x1 b o e), k _ _ (hne 2 (by decide)) x2, x3.at fun o e => k _ _ (hne 0 (by decide)) e, x4.at fun o e => k _ _ (hne 1 (by decide)) e, d, ?_⟩
    rcases x6 with ⟨q, y1, y2⟩ | ⟨T, b, q, y1, y2⟩
    · exact .inl ⟨q, k _ _ (hne 4 (by decide)) y1, k _ _ (hne 3 (by decide)) y2⟩
    · obtain ⟨oT, hoT⟩ := Option.isSome_iff_exists.mp y2
      exact .inr ⟨T, b, q, k _ _ (hne 4 (by decide)) y1, by rw [k _ _ q hoT]; rfl⟩
  · obtain ⟨x1, x2, x3, x4, x5, x6⟩ := x
    obtain ⟨u, hu, du⟩ := r1.get (i := i) (d := p.1) (by rw [List.getElem?_map, hp]; rfl)
    obtain ⟨v, hv, dv⟩ := r2.get (i := i) (d := .int p.2) (by rw [List.getElem?_map, hp]; rfl)
    have ik := ht.1 p (List.mem_of_getElem? hp)
    obtain ⟨ka, rfl⟩ := keyRef ik du
    cases dv
    rename_i tv
    have z1 : s.heap.get? L = none := hnone 0
    have base4 : ∀ h'' : Heap, (∀ c o, c ≠ L + 4 → c ≠ L + 3 → c ≠ L → c ≠ L + 1 → s'.heap.get? c = some o → h''.get? c = some o) → ∀ b o, s.heap.get? b = some o → s'.heap.get? b = some o → h''.get? b = some o := fun h'' kk b o e e' => by
      have hb : @LT.lt Nat _ b L := hlt _ _ e
      refine kk b o ?_ ?_ ?_ ?_ e' <;> (show (_ : Nat) ≠ _) <;> omega
    have dl := hne 4 (by decide)
    have l1' : s'.heap.IsList l1 us := isList_of (x1 _ _ e1)
    have l2' : s'.heap.IsList l2 vs := isList_of (x1 _ _ e2)
    have hsD : s'.heap.objs.size ≠ h'.objs.size := fun q => by rw [← q, Heap.get?_none_of_le (Nat.le_refl _)] at x5; cases x5
    obtain ⟨oD, hoD⟩ := Option.isSome_iff_exists.mp x5
    have fin : ∀ (h₂ : Heap) (r : Addr), IsPair h₂ r (.ref ka) (.int p.2 tv) → IsPair h₂ (L + 2) (.ref L) (.ref (L + 1)) → h₂.IsListIter L l1 (i + 1) → h₂.IsListIter (L + 1) l2 (i + 1) → (∀ c o, c ≠ L + 4 → c ≠ L + 3 → c ≠ L → c ≠ L + 1 → s'.heap.get? c = some o → h₂.get? c = some o) →
        (∃ T b, T ≠ h'.objs.size ∧ ZipB h₂ (L + 4) (L + 2) (L + 3) T b ∧ (h₂.get? T).isSome) → (i ≠ 0 → ∀ b o, s'.heap.get? b = some o → TupObj o → h₂.get? b = some o) → Q' (some (.ref r)) { s' with heap := h₂ } := fun h₂ r a1 a2 a3 a4 kk a5 kt => by
      have kD := kk h'.objs.size oD (Ne.symm (hne 4 (by decide))) (Ne.symm (hne 3 (by decide))) (Ne.symm (hne 0 (by decide))) (Ne.symm (hne 1 (by decide))) hoD
      have kb := fun b o e => base4 h₂ kk b o e (x1 b o e)
      exact hQ' h₂ s'.toks (.ref r) ⟨kb, a2, a3, a4, by rw [kD]; rfl, .inr a5⟩ ⟨r, ka, 0, tv, _, rfl, a1, rfl, rfl, (du.falseN ik).chg (.of kb) fun _ _ n => n⟩
        (fun o e => by rw [hoD] at e; cases e; exact kD) kt (base4 h₂ kk)
    rcases x6 with ⟨q, y1, y2⟩ | ⟨T, b, q, y1, y2⟩
    · refine wpAny_pyNext_zip_item ap y1 x2 y2 x3 x4 l1' l2' (by simpa using hu) (by simpa using hv) fun h₂ a1 a2 a3 a4 a5 a6 a7 => ?_
      exact fin h₂ _ a5 (a7 _ _ ap.TIz ap.TITO ap.TIi1 ap.TIi2 x2) a3 a4 a7 ⟨s'.heap.objs.size, false, hsD, a1, by rw [a5]; rfl⟩ fun z => absurd q z
    · refine pyNext_zip_busy_item ap y1 x2 y2 x3 x4 l1' l2' (by simpa using hu) (by simpa using hv) fun h₂ r a1 a2 a3 a4 a5 => ?_
      refine fin h₂ r a4 (a5 _ _ ap.TIz ap.TIi1 ap.TIi2 x2) a2 a3 (fun c o q1 _ q3 q4 e => a5 c o q1 q3 q4 e) ⟨T, true, q, a1, ?_⟩ fun _ b o e to => a5 b o (fun z => ?_) (fun z => ?_) (fun z => ?_) e
      · by_cases z1 : T = L + 4
        · rw [z1, a1]; rfl
        · by_cases z2 : T = L
          · obtain ⟨o, e, _⟩ := a2; rw [z2, e]; rfl
          · by_cases z3 : T = L + 1
            · obtain ⟨o, e, _⟩ := a3; rw [z3, e]; rfl
            · obtain ⟨oT, hoT⟩ := Option.isSome_iff_exists.mp y2
              rw [a5 _ _ z1 z2 z3 hoT]; rfl
      · rw [z, y1] at e; cases e; exact absurd (show Value.type "zip" = Value.type "tuple" from to.1) (by decide)
      · obtain ⟨o', e', hc, _⟩ := x3; rw [z, e'] at e; cases e; exact absurd (hc.symm.trans to.1) (by decide)
      · obtain ⟨o', e', hc, _⟩ := x4; rw [z, e'] at e; cases e; exact absurd (hc.symm.trans to.1) (by decide)
  · obtain ⟨x1, x2, x3, x4, x5, x6⟩ := x
    have l1' : s'.heap.IsList l1 us := isList_of (x1 _ _ e1)
    have l2' : s'.heap.IsList l2 vs := isList_of (x1 _ _ e2)
    obtain ⟨oD, hoD⟩ := Option.isSome_iff_exists.mp x5
    have bb : ∀ b o, s.heap.get? b = some o → b ≠ L + 4 ∧ b ≠ L + 3 ∧ b ≠ L ∧ b ≠ L + 1 := fun b o e => by
      have hb : @LT.lt Nat _ b L := hlt _ _ e
      refine ⟨?_, ?_, ?_, ?_⟩ <;> (show (_ : Nat) ≠ _) <;> omega
    have tz : ∀ b o, s'.heap.get? b = some o → TupObj o → b ≠ L ∧ b ≠ L + 1 := fun b o e to => ⟨fun z => by obtain ⟨o', e', hc, _⟩ := x3; rw [z, e'] at e; cases e; exact absurd (hc.symm.trans to.1) (by decide), fun z => by obtain ⟨o', e', hc, _⟩ := x4; rw [z, e'] at e; cases e; exact absurd (hc.symm.trans to.1) (by decide)⟩
    rcases x6 with ⟨q, _, _⟩ | ⟨T, b, q, y1, y2⟩
    · exact absurd (List.length_eq_zero_iff.mp q) hne0
    · refine pyNext_zip_busy_end (A := A.in1.in1) hr.handled ap y1 x2 y2 x3 l1' (by simp [n1]) fun h₂ a5 => ?_
      exact hQ' h₂ s'.toks (fun o e => a5 _ _ (Ne.symm (hne 4 (by decide))) (Ne.symm (hne 0 (by decide))) e) (fun b o e to => a5 b o (fun z => by rw [z, y1] at e; cases e; exact absurd (show Value.type "zip" = Value.type "tuple" from to.1) (by decide)) (tz b o e to).1 e) fun b o e e' => a5 b o (bb b o e).1 (bb b o e).2.2.1 e'
  · refine ⟨fun b o e => k1 _ _ (hk _ _ e), k1 _ _ hTI, h1.at fun o e => k1 _ _ e, h2.at fun o e => k1 _ _ e, by rw [k₁ _ _ hnew]; rfl, .inl ⟨rfl, k1 _ _ hz, k1 _ _ hTO⟩⟩
  · refine ⟨rfl, hQ h'' tk _ (.ofKeep kb) ?_⟩
    obtain ⟨es, n', hat⟩ := f.at (fun a => N a ∨ (φ = true ∧ (s.heap.get? a).isSome))
    refine hat.den fun q => ?_
    rcases q with q | q
    · exact c.fresh hD0 q
    · rw [hD0] at q; exact absurd q.2 (by simp)
end
end Mine

namespace Mine
open Sem (wp)

section
variable {g : G} {prog : Program} {w : World} {k j : Nat} {sc : Scope} {φ φ₁ φ₂ φ₃ : Bool} {ρ ρ' ρ₁ ρ₂ : Rho} {N : Addr → Prop} {env : Env}

/-- dict(zip(a, b)) -/
theorem Ev.dictZip {e1 e2 : Expr} {np zp cpos pos : Pos} {t : List (PyData × Int)} (bd : BName g sc "dict" (.type "dict")) (bz : BName g sc "zip" (.type "zip")) (hne : t ≠ []) (ht : tabOk t) (hsz : t.length ≤ sizeLine)
    (x1 : Ev g prog w k sc φ₁ ρ e1 (.list (t.map (·.1)))) (x2 : Ev g prog w k sc φ₁ ρ e2 (.list (t.map fun p => .int p.2)))
    (h1 : ∀ env, starEach [.Call (.Name "zip" zp) [e1, e2] [] cpos] env = [(false, eval (.Call (.Name "zip" zp) [e1, e2] [] cpos) env)] := by intro _; rfl)
    (h2 : ∀ env, starEach [e1, e2] env = (false, eval e1 env) :: starEach [e2] env := by intro _; rfl) (h3 : ∀ env, starEach [e2] env = (false, eval e2 env) :: starEach [] env := by intro _; rfl) :
    Ev g prog w k sc φ ρ (.Call (.Name "dict" np) [.Call (.Name "zip" zp) [e1, e2] [] cpos] [] pos) (tabD t) := by
  intro A env N s Q E hs hr z hQ
  refine call_open (bd.use hs z (PyProof.Rows.callWith_type ?_ ?_))
  · rw [h1]; rfl
  rw [h1]
  refine Calls.evalArgs_plain (Calls.spliced_cons (call_open (bz.use hs z (PyProof.Rows.callWith_type ?_ ?_))))
  · rw [h2, h3]; rfl
  have y := EvL.cons x1 (EvL.cons x2 EvL.nil h3) h2
  have y' := y A env N s cpos (fun vs s₁ => wpAny (model prog w) A (call (.type "zip") vs) (fun v s₂ => wpAny (model prog w) A (call (.type "dict") [v]) Q E s₂) E s₁) E hs hr z fun h₁ t₁ vs m₁ d₁ => by
    cases d₁ with
    | cons du r =>
      cases r with
      | cons dv r =>
        cases r
        obtain ⟨l1, rfl⟩ := du.listRef
        obtain ⟨l2, rfl⟩ := dv.listRef
        obtain ⟨_, us, n, q1, r1⟩ := du.isList
        obtain ⟨_, vs, m, q2, r2⟩ := dv.isList
        refine dict_zip_call (φ := φ) (s := { s with heap := h₁, toks := t₁ }) hne ht hsz hr (z.gr m₁).cx q1 q2 (r1.weaken fun a _ n => .inl n) (r2.weaken fun a _ n => .inl n) fun h₂ t₂ r m₂ d₂ => ?_
        exact hQ h₂ t₂ r (m₁.trans m₂) (d₂.weaken fun a _ n => n.elim .inl fun q => .inr ⟨q.1, m₁.live a q.2⟩)
  rw [h2] at y' ⊢
  refine Calls.evalArgs_plain (wpAny_mono y' (fun vs s₁ hv => ?_) fun _ _ x => x)
  exact wpAny_mono hv (fun v s₂ hd => Calls.spliced_nil hd) fun _ _ x => x
end
end Mine

namespace Mine
open Sem (wp)

theorem filter_one {α : Type} [BEq α] [LawfulBEq α] {l : List α} (h : l.Nodup) (a : α) : (l.filter (· == a)).length ≤ 1 := by
  induction l with
  | nil => simp
  | cons x l ih =>
    rw [List.nodup_cons] at h
    by_cases q : x = a
    · subst q
      have : l.filter (· == x) = [] := List.filter_eq_nil_iff.mpr fun y hy e => h.1 (by rw [eq_of_beq e] at hy; exact hy)
      rw [List.filter_cons_of_pos (by simp), this]; simp
    · rw [List.filter_cons_of_neg (by simpa using q)]; exact ih h.2

section
variable {g : G} {prog : Program} {w : World} {k j : Nat} {φ : Bool} {A : Around} {E : Value → Shared → Prop} {s : Shared}

theorem denE_hash {N : Addr → Prop} {h : Heap} : ∀ {kvs : List (PyData × PyData)} {es : List DictEntry}, DenE w N h kvs es → es.map (·.hash) = kvs.map fun p => hashD w p.1
  | _, _, .nil => rfl
  | _, _, .cons i x y r => by rw [List.map_cons, List.map_cons, denE_hash r]
theorem denE_keyRef {N : Addr → Prop} {h : Heap} : ∀ {kvs : List (PyData × PyData)} {es : List DictEntry}, DenE w N h kvs es → ∀ e ∈ es, ∃ a, e.key = .ref a ∧ ∃ o, h.get? a = some o ∧ o.cls = .type "tuple"
  | _, _, .nil, e, m => by cases m
  | _, _, .cons i x y r, e, m => by
    rcases List.mem_cons.mp m with rfl | m
    · refine ⟨_, rfl, ?_⟩
      rename_i k d a v kvs es
      cases k <;> simp [isKey] at i
      cases x with | tuple e hc hd r => exact ⟨_, e, hc⟩
    · exact denE_keyRef r e m

theorem entries_apart {id : String} {d : Addr} {N : Addr → Prop} {kvs : List (PyData × PyData)} {es : List DictEntry} {ep : Nat} {Q : Array DictEntry → Shared → Prop} (hat : DictAtD w N s.heap d kvs es ep) (hh : (kvs.map fun p => hashD w p.1).Nodup) (h : Q es.toArray s) :
    wpAny (model prog w) A (Builtin.Dict.entriesForEmpty id d) Q E s := by
  unfold Builtin.Dict.entriesForEmpty
  refine wpAny_bind (wpAny_dictEntries hat.1 rfl (wpAny_bind ?_))
  rw [← Array.forIn_toList]
  refine wpAny_forIn_list _ (fun rest _ s' => s' = s ∧ ∀ e ∈ rest, e ∈ es) _ ?_ ?_ _ _ ⟨rfl, fun e m => by simpa using m⟩
  · rintro e rest _ s' ⟨rfl, hm⟩
    obtain ⟨a, ek, o, ho, hc⟩ := denE_keyRef hat.2.1 e (hm e (List.mem_cons_self ..))
    refine wpAny_bind ?_
    rw [ek]
    unfold Builtin.Dict.quietEq
    refine wpAny_bind (wpAny_specialOf (T := "tuple") ⟨o, ho, hc⟩ F.slot_tuple_eq.lookup (wpAny_pure ?_))
    have hfil : ¬ (es.toArray.filter (·.hash == e.hash)).size > 1 := by
      have h1 := denE_hash hat.2.1
      have h2 := filter_one (l := es.map (·.hash)) (by rw [h1]; exact hh) e.hash
      rw [List.filter_map, List.length_map] at h2
      have : (es.toArray.filter (·.hash == e.hash)).size = (es.filter ((fun x => x == e.hash) ∘ fun x => x.hash)).length := by
        rw [List.filter_toArray]; simp [Function.comp_def]
      omega
    have q : ((!(some (Value.builtin "tuple.__eq__") == some (Value.builtin "object.__eq__"))) = true) := by decide
    first
      | (rw [if_pos q, if_neg hfil]; exact wpAny_pure ⟨rfl, fun e m => hm e (List.mem_cons_of_mem _ m)⟩)
      | (rw [if_pos q]; simp only [hfil, if_false]; exact wpAny_pure ⟨rfl, fun e m => hm e (List.mem_cons_of_mem _ m)⟩)
  · rintro _ s' ⟨rfl, _⟩
    exact wpAny_pure h

/-- dict(a dict of counts) -/
theorem Fn.dictCopy {t : List (PyData × Int)} (ht : tabOk t) (hne : t ≠ []) (hsz : t.length ≤ sizeLine) (hh : (t.map fun p => hashD w p.1).Nodup) : Fn g prog w k φ (.type "dict") [tabD t] (tabD t) := by
  intro A N s vs Q E hr c dv hQ
  cases dv with
  | cons x r =>
    cases r
    obtain ⟨a, rfl⟩ := x.dictRef
    obtain ⟨na, es, n, hat⟩ := Den.dictAt x (tab_open ht.1)
    refine callType_codes (Q₁ := fun obj s₁ => obj = .ref s.heap.objs.size ∧ s₁ = { s with heap := s.heap.push { cls := .type "dict", data := .dict #[] } }) F.kt_called_dict (F.kt_typeCall_dict_1 _) F.entry_dict_init (kt_code_dict_new _ ⟨rfl, rfl⟩) ?_
    rintro obj s₁ ⟨rfl, rfl⟩
    have hD0 : s.heap.get? s.heap.objs.size = none := Heap.get?_none_of_le (Nat.le_refl _)
    have hnew : (s.heap.push { cls := .type "dict", data := .dict #[] }).get? s.heap.objs.size = some { cls := .type "dict", data := .dict #[] } := Heap.get?_push_size _ rfl
    have hT : ({ s with heap := s.heap.push { cls := .type "dict", data := .dict #[] } } : Shared).TypeIs (.ref s.heap.objs.size) "dict" := ⟨_, hnew, rfl⟩
    have hat1 : DictAtD w N (s.heap.push { cls := .type "dict", data := .dict #[] }) a (tabKV t) es n := hat.keeps fun b o e => Heap.get?_push_of_some _ e
    have hTa : ({ s with heap := s.heap.push { cls := .type "dict", data := .dict #[] } } : Shared).TypeIs (.ref a) "dict" := ⟨_, hat1.1, rfl⟩
    have hda : s.heap.objs.size ≠ a := fun q => by have := hat.1; rw [← q, hD0] at this; cases this
    have hes : es ≠ [] := fun q => by
      have := hat.2.1.length
      rw [q] at this
      simp [tabKV] at this
      exact hne (List.length_eq_zero_iff.mp this.symm)
    refine ⟨hT, F.args_dict_init_2 _ _, ?_⟩
    unfold Builtin.«dict.__init__»
    refine wpAny_bind ?_
    unfold Builtin.Dict.selfAndRest
    refine wpAny_bind (wpAny_notOrdered_dict hT ?_)
    show wpAny _ _ (pure (s.heap.objs.size, [Value.ref a])) _ _ _
    refine wpAny_pure ?_
    show wpAny _ _ (Builtin.Dict.updateFrom "dict.__init__" s.heap.objs.size (.ref a) [] .none) _ _ _
    unfold Builtin.Dict.updateFrom
    refine wpAny_bind (wpAny_typeOf hTa ?_)
    rw [if_neg (by decide)]
    refine wpAny_bind ?_
    unfold Builtin.Dict.merge
    refine wpAny_bind ?_
    unfold Builtin.Dict.readDirectly
    refine wpAny_bind (wpAny_isInstance hTa isSubtype_dict_dict ?_)
    simp only [Bool.not_true, Bool.false_eq_true, if_false]
    refine wpAny_bind (wpAny_specialOf hTa F.slot_dict_iter.lookup (wpAny_pure ?_))
    simp only [beq_self_eq_true, if_true]
    refine wpAny_bind (wpAny_pure ?_)
    show wpAny _ _ (Builtin.Dict.mergeDict "dict.__init__" s.heap.objs.size a) _ _ _
    unfold Builtin.Dict.mergeDict
    rw [if_neg (by simpa using hda)]
    unfold Builtin.Dict.showsAll
    rw [if_neg (by rw [ne_mods c na]; exact Bool.false_ne_true)]
    refine wpAny_bind (wpAny_pure ?_)
    refine wpAny_bind (wpAny_dictEntries hat1.1 rfl ?_)
    have hfew : (decide (es.toArray.size ≤ 8) && es.toArray.all fun e => (keyPart e.key).isSome) = false := by
      cases es with
      | nil => exact absurd rfl hes
      | cons e es =>
        obtain ⟨b, eb, _⟩ := denE_keyRef hat.2.1 e (List.mem_cons_self ..)
        simp [eb, keyPart]
    simp only [hfew, Bool.not_false, if_true]
    refine wpAny_bind (wpAny_dictEntries hnew rfl ?_)
    rw [if_pos (by rfl)]
    refine wpAny_bind (entries_apart (N := N) hat1 (by rw [tabKV, List.map_map]; exact hh) ?_)
    have hne2 : (!es.toArray.isEmpty) = true := by simpa using hes
    rw [if_pos hne2]
    have hl : es.length = t.length := by rw [hat.2.1.length]; simp [tabKV]
    refine wpAny_bind (wpAny_updateDictKeysTo hnew rfl (wpAny_pure ?_) (by rw [List.size_toArray, hl]; omega))
    generalize hh' : (s.heap.push { cls := .type "dict", data := .dict #[] }).update s.heap.objs.size (Obj.mapDictKeys fun _ => es.toArray) = h'
    have hsb : Heap.SameBut s.heap.objs.size (s.heap.push { cls := .type "dict", data := .dict #[] }) h' := hh' ▸ Heap.SameBut.update ..
    have kb : ∀ b o, s.heap.get? b = some o → h'.get? b = some o := fun b o e => hsb.extBut b o (fun q => by rw [q, hD0] at e; cases e) (Heap.get?_push_of_some _ e)
    have hD : h'.get? s.heap.objs.size = some ⟨.type "dict", none, .dict es.toArray 1, #[]⟩ := by
      rw [← hh']
      exact Heap.get?_update_self _ hnew rfl
    show wpAny _ _ (Builtin.Dict.addKeywords s.heap.objs.size [] >>= _) _ _ _
    refine wpAny_bind (wpAny_pure (wpAny_pure ⟨rfl, ?_⟩))
    refine hQ h' s.toks _ (.ofKeep kb) (.dict (fun q => ?_) hD ?_ hat.2.2)
    · rcases q with q | q
      · exact c.fresh hD0 q
      · rw [hD0] at q; exact absurd q.2 (by simp)
    · exact DenE.flatE tab_flat (hat.2.1.chg (.of kb) fun _ _ n => n)
end
end Mine

namespace Mine
open Sem (wp)

noncomputable abbrev Tab := List (PyData × Int)
noncomputable def tabsD (r : List Tab) : PyData := .list (r.map tabD)
noncomputable def tabRowsD (T : List (List Tab)) : PyData := .list (T.map tabsD)
noncomputable def refsD (as : List Addr) : PyData := .list (as.map refD)
/-- rows of tables whose row lists are opened: as are the places of the row lists -/
noncomputable def RowsAt (w : World) (N : Addr → Prop) (h : Heap) (as : List Addr) (T : List (List Tab)) : Prop :=
  as.length = T.length ∧ ∀ (p : Nat) (a : Addr) (r : List Tab), as[p]? = some a → T[p]? = some r → ∃ vs m, h.get? a = some ⟨.type "list", none, .seq vs m, #[]⟩ ∧ DenL w N h (r.map tabD) vs.toList

section
variable {g : G} {prog : Program} {w : World} {k j : Nat} {sc : Scope} {φ φ₁ φ₂ φ₃ : Bool} {ρ ρ' ρ₁ ρ₂ : Rho} {N N₂ : Addr → Prop} {env : Env} {e : Expr} {pos : Pos} {body rest : List Stmt}

theorem DenL.put {h : Heap} : ∀ {ds : List PyData} {vs : List Value} {i : Nat} {d : PyData} {v : Value}, DenL w N h ds vs → Den w N h d v → DenL w N h (ds.set i d) (vs.set i v)
  | _, _, _, _, _, .nil, _ => .nil
  | _, _, 0, _, _, .cons x r, y => .cons y r
  | _, _, i + 1, _, _, .cons x r, y => .cons x (DenL.put r y)

/-- o[i] = e, o an opened list, e run by hand -/
theorem set_listR {o i : Expr} {spos : Pos} {dv : PyData} {m : Int} {d : Addr} {us : Array Value} {n : Nat} {A : Around} {s : Shared} {Q : Flow → Shared → Prop} {E : Value → Shared → Prop}
    (xe : ∀ {Q' E' : Value → Shared → Prop}, (∀ h' tk v, Mv g noO s.heap h' → Den w N h' dv v → Q' v { s with heap := h', toks := tk }) → wpAny (model prog w) A (eval e env) Q' E' s)
    (xo : ∀ {N' : Addr → Prop} {s' : Shared} {Q' E' : Value → Shared → Prop}, Mv g noO s.heap s'.heap → St g w N' env s'.heap ρ → (∀ h' tk, Mv g noO s'.heap h' → Q' (.ref d) { s' with heap := h', toks := tk }) → wpAny (model prog w) A (eval o env) Q' E' s')
    (xi : Ev g prog w k sc φ₂ ρ i (.int m)) (hs : env.scope = sc) (hr : Room A k) (z : St g w N env s.heap ρ) (hN : N d) (ho : OffOwn g env d)
    (hat : s.heap.get? d = some ⟨.type "list", none, .seq us n, #[]⟩) (h0 : 0 ≤ m) (hfit : m < 2 ^ 63) (hm : m < us.size) (hsw : ∀ env, swapsWith e (some (.Subscript o i spos)) pos.line env = pure false)
    (hQ : ∀ h₁ h' tk n' v, Mv g noO s.heap h₁ → Den w N h₁ dv v → Mv g (fun b => b = d) h₁ h' → St g w N env h' ρ → h'.get? d = some ⟨.type "list", none, .seq (us.setIfInBounds m.toNat v) n', #[]⟩ → Q .next { s with heap := h', toks := tk }) :
    wpAny (model prog w) A (exec (.Assign [.Subscript o i spos] e pos) env) Q E s := by
  refine wpAny_Assign_Subscript (xe fun h₁ t₁ v m₁ d₁ => xo (N' := N) (s' := { s with heap := h₁, toks := t₁ }) m₁ (z.gr m₁) fun h₂ t₂ m₂ =>
    xi A env N { s with heap := h₂, toks := t₂ } _ E hs hr ((z.gr m₁).gr m₂) fun h₃ t₃ iv m₃ d₃ => ?_) (hsw env)
  cases d₃
  have hT := z.cx.tabs
  have hk : ∀ {h h' : Heap} {o : Obj}, Mv g noO h h' → h.get? d = some o → h'.get? d = some o := fun m e => m.keep _ _ e (.inl ⟨ho.2.2, id⟩)
  have hat' := hk m₃ (hk m₂ (hk m₁ hat))
  refine setItem_exact hat' h0 hfit hm fun h₄ n' e₄ hsb => ?_
  have m₄ : Mv g (fun b => b = d) h₃ h₄ := .one hsb.extBut rfl ho.2.2 (list_soft hat') (by rw [e₄]; rfl)
  have m13 : Mv g noO s.heap h₃ := (m₁.trans m₂).trans m₃
  refine hQ h₃ h₄ t₃ n' v m13 (d₁.chg ((m₂.trans m₃).chg (fun a t => hT a t) fun _ q => q.elim) fun _ _ n => n) m₄ ((z.gr m13).mv m₄ fun a q => ⟨q ▸ hN, q ▸ ho.2.1, q ▸ ho.1⟩) e₄

theorem rows_close {N₃ : Addr → Prop} {h : Heap} {as : List Addr} {T : List (List Tab)} {v : Value} (x : Den w N₂ h (refsD as) v) (r : RowsAt w N₃ h as T) (hs : ∀ b, N b → N₂ b) (hs' : ∀ b, N b → N₃ b) (ha : ∀ a ∈ as, ¬ N a) : Den w N h (tabRowsD T) v := by
  obtain ⟨a, rfl⟩ := x.listRef
  obtain ⟨na, vs, n, e, rr⟩ := x.isList
  refine .list (fun q => na (hs _ q)) e ?_
  have key : ∀ (as : List Addr) (T : List (List Tab)) (us : List Value), DenL w N₂ h (as.map refD) us → as.length = T.length → (∀ a ∈ as, ¬ N a) →
      (∀ (p : Nat) (a : Addr) (r : List Tab), as[p]? = some a → T[p]? = some r → ∃ vs m, h.get? a = some ⟨.type "list", none, .seq vs m, #[]⟩ ∧ DenL w N₃ h (r.map tabD) vs.toList) → DenL w N h (T.map tabsD) us := by
    intro as
    induction as with
    | nil => intro T us d hl _ _; cases T with | nil => cases d; exact .nil | cons t T => simp at hl
    | cons a as ih =>
      intro T us d hl hn hr
      cases T with
      | nil => simp at hl
      | cons t T =>
        cases d with
        | cons du dr =>
          cases du.refEq
          obtain ⟨vs, m, e, dl⟩ := hr 0 a t rfl rfl
          refine .cons (.list (hn a (List.mem_cons_self ..)) e (dl.weaken fun b _ q => hs' b q)) (ih T _ dr (by simpa using hl) (fun b m => hn b (List.mem_cons_of_mem _ m)) fun p b r h1 h2 => hr (p + 1) b r (by simpa using h1) (by simpa using h2))
  exact key as T vs.toList rr r.1 ha r.2

theorem RowsAt.mv {O : Addr → Prop} {h h' : Heap} {as : List Addr} {T : List (List Tab)} (x : RowsAt w N h as T) (m : Mv g O h h') (hT : ∀ a, g.T a → N a) (hO : ∀ a, O a → N a) (ha : ∀ a ∈ as, ¬ g.T a ∧ ¬ O a) : RowsAt w N h' as T :=
  ⟨x.1, fun p a r h1 h2 => let ⟨vs, n, e, d⟩ := x.2 p a r h1 h2; ⟨vs, n, m.keep _ _ e (.inl (ha a (List.mem_of_getElem? h1))), d.chg (m.chg hT hO) fun _ _ n => n⟩⟩

noncomputable def keyW (q : Nat) : PyData := .tuple [.str "with", .int q, .str "tie"]
theorem keyW_ok (q : Nat) : isKey (keyW q) = true := by
  have h1 : PyData.strOk (Str.ofString "with") = true := by decide +kernel
  have h2 : PyData.strOk (Str.ofString "tie") = true := by decide +kernel
  simp only [keyW, isKey, keyBs, keyB, PyData.depth, PyData.depthAll, h1, h2]
  simp

/-- rows[x][colour] = add_callers(rows[x][colour], {('with', y, 'tie'): 1}), the rows opened -/
theorem set_row {X Y : Str} {p1 p2 p3 p4 p5 p6 p7 p8 p9 p10 p11 q1 q2 q3 q4 q5 q6 cp : Pos} {n1 n2 n3 n4 : Nat} {as : List Addr} {T : List (List Tab)} {r : List Tab} {t : Tab} {p c q : Nat} {a fa : Addr} {A : Around} {s : Shared} {Q : Flow → Shared → Prop} {E : Value → Shared → Prop}
    (fadd : FName g sc "add_callers" fa) (hadd : ∀ t key, tabOk t → isKey key = true → t.length < sizeLine → Fn g prog w k true (.ref fa) [tabD t, .dict [(key, .int 1)]] (tabD (bumpT t key)))
    (hX : List.lookup X (("rows", tabRowsD T) :: ρ) = some (.int p)) (hX' : List.lookup X (("rows", refsD as) :: ρ) = some (.int p)) (hC : List.lookup ("colour" : Str) (("rows", tabRowsD T) :: ρ) = some (.int c)) (hC' : List.lookup ("colour" : Str) (("rows", refsD as) :: ρ) = some (.int c)) (hY : List.lookup Y (("rows", tabRowsD T) :: ρ) = some (.int q))
    (dX : (X == ("__debug__" : Str)) = false ∧ (X == ("__classdict__" : Str)) = false) (dY : (Y == ("__debug__" : Str)) = false ∧ (Y == ("__classdict__" : Str)) = false)
    (hnd : as.Nodup) (hoff : ∀ b ∈ as, N b ∧ OffOwn g env b) (hp : as[p]? = some a) (hr' : T[p]? = some r) (hc : r[c]? = some t) (hp63 : p < 2 ^ 62) (hc63 : c < 2 ^ 62) (ht : tabOk t) (hsz : t.length < sizeLine)
    (hs : env.scope = sc) (hr : Room A k) (z : St g w N env s.heap (("rows", refsD as) :: ρ)) (hra : RowsAt w N s.heap as T)
    (hQ : ∀ h' tk, Mv g (fun b => b = a) s.heap h' → St g w N env h' (("rows", refsD as) :: ρ) → RowsAt w N h' as (T.set p (r.set c (bumpT t (keyW q)))) → Q .next { s with heap := h', toks := tk }) :
    wpAny (model prog w) A (exec (.Assign [.Subscript (.Subscript (.Name "rows" p1) (.Name X p2) p3) (.Name "colour" p4) p5] (.Call (.Name "add_callers" p6) [.Subscript (.Subscript (.Name "rows" p7) (.Name X p8) p9) (.Name "colour" p10) p11, .Dict [some (.Tuple [.Constant (.str "with") n1 q1, .Name Y q2, .Constant (.str "tie") n2 q3] n3 q4)] [.Constant (.int 1) n4 q5] q6] [] cp) pos) env) Q E s := by
  have ham : a ∈ as := List.mem_of_getElem? hp
  obtain ⟨vs, m, ea, da⟩ := hra.2 p a r hp hr'
  have hvl := da.length
  simp only [List.length_map, Array.length_toList] at hvl
  have hcl : c < r.length := (List.getElem?_eq_some_iff.mp hc).1
  have hsys : sysModules ∉ as := fun q => by have := g.mods; rw [(hoff _ q).2.2.1] at this; cases this
  have z₀ : St g w (fun b => N b ∧ b ∉ as) env s.heap (("rows", tabRowsD T) :: ρ) := St.recast z (fun b n => n.1) ⟨z.cx.mods, hsys⟩ (fun b t => ⟨z.cx.tabs b t, fun q => (hoff b q).2.2.2 t⟩) (fun b o => ⟨(z.ok.own b o).1, fun q => (hoff b q).2.1 o⟩)
    fun v dv => rows_close dv hra (fun b n => n.1) (fun b n => n.1) fun b m n => n.2 m
  have xe : Ev g prog w k sc true (("rows", tabRowsD T) :: ρ) (.Call (.Name "add_callers" p6) [.Subscript (.Subscript (.Name "rows" p7) (.Name X p8) p9) (.Name "colour" p10) p11, .Dict [some (.Tuple [.Constant (.str "with") n1 q1, .Name Y q2, .Constant (.str "tie") n2 q3] n3 q4)] [.Constant (.int 1) n4 q5] q6] [] cp) (tabD (bumpT t (keyW q))) :=
    Ev.fnF fadd (EvL.cons (φ := false) (Ev.sub (φ₁ := false) (φ₂ := false) (Ev.sub (φ₁ := false) (φ₂ := false) (φ := false) (Ev.name (d := tabRowsD T) rfl) (Ev.name (d := .int p) hX dX.1 dX.2) (Op2.item (d := tabsD r) (by omega) (by omega) (by rw [Int.toNat_natCast, List.getElem?_map, hr']; rfl))) (Ev.name (d := .int c) hC) (Op2.item (d := tabD t) (by omega) (by omega) (by rw [Int.toNat_natCast, List.getElem?_map, hc]; rfl)))
      (EvL.cons (Ev.dict1 (Ev.tup (φ := false) (EvL.cons Ev.str (EvL.cons (Ev.name hY dY.1 dY.2) (EvL.cons Ev.str .nil)))) Ev.int (keyW_ok q)) .nil)) (hadd t (keyW q) ht (keyW_ok q) hsz)
  refine set_listR (d := a) (us := vs) (n := m) (m := (c : Int)) (dv := tabD (bumpT t (keyW q))) (φ₂ := false) (fun h => xe A env _ s _ _ hs hr z₀ fun h' tk v m dv => h h' tk v m (dv.weaken fun b _ n => .inr ⟨rfl, z.cx.live b n⟩))
    (fun m z h => Ev.run (Ev.sub (φ₁ := false) (φ₂ := false) (Ev.name (d := refsD as) rfl) (Ev.name (d := .int p) hX' dX.1 dX.2) (Op2.item (d := refD a) (by omega) (by omega) (by rw [Int.toNat_natCast, List.getElem?_map, hp]; rfl))) hs hr z fun h' tk v m d => by cases d.refEq; exact h h' tk m)
    (Ev.name (d := .int (c : Int)) hC') hs hr z (hoff a ham).1 (hoff a ham).2 ea (by omega) (by omega) (by omega) (fun _ => rfl) fun h₁ h₂ t₂ n' v m₁ dv m₂ z₂ e₂ => ?_
  have c₂ : Chg N h₁ h₂ := m₂.chg z.cx.tabs fun b q => q ▸ (hoff a ham).1
  have c₁ : Chg N s.heap h₁ := m₁.chg z.cx.tabs fun b q => q.elim
  refine hQ h₂ t₂ ((m₁.mono fun _ q => q.elim).trans m₂) z₂ ⟨by rw [List.length_set]; exact hra.1, fun p' a' r' h1 h2 => ?_⟩
  by_cases hpp : p' = p
  · subst hpp
    rw [hp] at h1; cases h1
    rw [List.getElem?_set_self (by rw [← hra.1]; exact (List.getElem?_eq_some_iff.mp hp).1)] at h2
    cases h2
    refine ⟨_, n', e₂, ?_⟩
    rw [Array.toList_setIfInBounds, Int.toNat_natCast, List.map_set]
    exact ((da.chg c₁ fun _ _ n => n).put dv).chg c₂ fun _ _ n => n
  · rw [List.getElem?_set_ne (Ne.symm hpp)] at h2
    obtain ⟨vs', m', e', d'⟩ := hra.2 p' a' r' h1 h2
    have hne : a' ≠ a := fun q => by
      subst q
      exact hpp ((List.getElem?_inj (List.getElem?_eq_some_iff.mp h1).1 hnd).mp (h1.trans hp.symm))
    have ha' := (hoff a' (List.mem_of_getElem? h1)).2.2.2
    exact ⟨vs', m', m₂.keep _ _ (m₁.keep _ _ e' (.inl ⟨ha', id⟩)) (.inl ⟨ha', hne⟩), (d'.chg c₁ fun _ _ n => n).chg c₂ fun _ _ n => n⟩
end
end Mine

namespace Mine
open Sem (wp)

/-! tables of a place, stepped purely -/
noncomputable def stepT (T : List (List Tab)) (p c q : Nat) : List (List Tab) := T.set p ((T.getD p []).set c (bumpT ((T.getD p []).getD c []) (keyW q)))
noncomputable def stepTwo (f : Nat → Nat → Nat) (T : List (List Tab)) (p : Nat × Nat) : List (List Tab) := stepT (stepT T p.1 (f p.1 p.2) p.2) p.2 (f p.1 p.2) p.1
noncomputable def runL (f : Nat → Nat → Nat) (l : List (Nat × Nat)) (T : List (List Tab)) : List (List Tab) := l.foldl (stepTwo f) T
noncomputable def turnsT (f : Nat → Nat → Nat) (l : List (Nat × Nat)) (n : Nat) : Nat → List (List Tab)
  | 0 => List.replicate n [[], []]
  | i + 1 => runL f l (turnsT f l n i)

noncomputable def GoodR (n m : Nat) (T : List (List Tab)) : Prop := T.length = n ∧ ∀ r ∈ T, r.length = 2 ∧ ∀ t ∈ r, tabOk t ∧ t.length ≤ m
theorem GoodR.mono {n m m' : Nat} {T : List (List Tab)} (h : GoodR n m T) (hm : m ≤ m') : GoodR n m' T := ⟨h.1, fun r q => ⟨(h.2 r q).1, fun t s => ⟨((h.2 r q).2 t s).1, Nat.le_trans ((h.2 r q).2 t s).2 hm⟩⟩⟩
theorem getD_mem {α : Type} {l : List α} {i : Nat} {d : α} (h : i < l.length) : l.getD i d ∈ l := by
  have := List.getElem?_eq_some_iff.mp (getD_of (d := d) h)
  rw [← this.2]; exact List.getElem_mem _
theorem stepT_good {n m p c q : Nat} {T : List (List Tab)} (h : GoodR n m T) (hp : p < n) (hc : c < 2) : GoodR n (m + 1) (stepT T p c q) := by
  have hr := h.2 _ (getD_mem (d := []) (by rw [h.1]; exact hp))
  refine ⟨by rw [stepT, List.length_set]; exact h.1, fun r mr => ?_⟩
  rcases List.mem_or_eq_of_mem_set mr with mr | rfl
  · exact (h.mono (Nat.le_succ m)).2 r mr
  · refine ⟨by rw [List.length_set]; exact hr.1, fun t mt => ?_⟩
    rcases List.mem_or_eq_of_mem_set mt with mt | rfl
    · exact ⟨(hr.2 t mt).1, Nat.le_succ_of_le (hr.2 t mt).2⟩
    · have ht := hr.2 _ (getD_mem (l := T.getD p []) (d := []) (by rw [hr.1]; exact hc))
      exact ⟨bump_keys ht.1 (keyW_ok q), Nat.le_trans bump_len (Nat.succ_le_succ ht.2)⟩
theorem stepTwo_good {n m : Nat} {f : Nat → Nat → Nat} {p : Nat × Nat} {T : List (List Tab)} (h : GoodR n m T) (hp : p.1 < n ∧ p.2 < n) (hc : f p.1 p.2 < 2) : GoodR n (m + 2) (stepTwo f T p) :=
  stepT_good (stepT_good h hp.1 hc) hp.2 hc
theorem runL_good {n m : Nat} {f : Nat → Nat → Nat} : ∀ {l : List (Nat × Nat)} {T : List (List Tab)} {m : Nat}, GoodR n m T → (∀ p ∈ l, p.1 < n ∧ p.2 < n) → (∀ p ∈ l, f p.1 p.2 < 2) → GoodR n (m + 2 * l.length) (runL f l T)
  | [], T, m, h, _, _ => h
  | p :: l, T, m, h, hl, hf => by
    have := runL_good (n := n) (m := m) (stepTwo_good h (hl p (List.mem_cons_self ..)) (hf p (List.mem_cons_self ..))) (fun q m => hl q (List.mem_cons_of_mem _ m)) fun q m => hf q (List.mem_cons_of_mem _ m)
    refine GoodR.mono this ?_
    rw [List.length_cons]; omega
theorem turnsT_good {n : Nat} {f : Nat → Nat → Nat} {l : List (Nat × Nat)} (hl : ∀ p ∈ l, p.1 < n ∧ p.2 < n) (hf : ∀ p ∈ l, f p.1 p.2 < 2) : ∀ i, GoodR n (i * (2 * l.length)) (turnsT f l n i)
  | 0 => ⟨List.length_replicate, fun r m => by
      rw [List.eq_of_mem_replicate m]
      exact ⟨rfl, fun t mt => by
        simp at mt; subst mt
        exact ⟨⟨fun p m => (by cases m), .nil⟩, Nat.zero_le _⟩⟩⟩
  | i + 1 => by
    rw [Nat.succ_mul]
    exact runL_good (m := 0) (turnsT_good hl hf i) hl hf

noncomputable def pk (a b : Nat) : PyData := .tuple [.int a, .int b]
theorem pk_ok (a b : Nat) : isKey (pk a b) = true := by
  simp only [pk, isKey, keyBs, keyB, PyData.depth, PyData.depthAll]
  simp
noncomputable def tieT (l : List (Nat × Nat)) (f : Nat → Nat → Nat) : Tab := l.map fun p => (pk p.1 p.2, (f p.1 p.2 : Int))

section
variable {g : G} {prog : Program} {w : World} {k j : Nat} {sc : Scope} {φ φ₁ φ₂ φ₃ : Bool} {ρ ρ' ρ₁ ρ₂ : Rho} {N N₂ : Addr → Prop} {env : Env} {e : Expr} {pos : Pos} {body rest : List Stmt}

theorem tabs_widen {M : Addr → Prop} {h : Heap} : ∀ {r : List Tab} {vs : List Value}, DenL w M h (r.map tabD) vs → (∀ t ∈ r, ∀ p ∈ t, isKey p.1 = true) → (∀ b es n, h.get? b = some ⟨.type "dict", none, .dict es n, #[]⟩ → N b → M b) → DenL w N h (r.map tabD) vs
  | [], _, x, _, _ => by cases x; exact .nil
  | t :: r, _, x, hk, hN => by
    cases x with
    | cons x rr =>
      refine .cons ?_ (tabs_widen rr (fun t m => hk t (List.mem_cons_of_mem _ m)) hN)
      obtain ⟨a, rfl⟩ := x.dictRef
      obtain ⟨na, es, n, hat⟩ := Den.dictAt x (tab_open (hk t (List.mem_cons_self ..)))
      obtain ⟨es', n', hat'⟩ := (FD.of hat).at N
      exact hat'.den fun q => na (hN a _ _ hat.1 q)

theorem rows_open {M : Addr → Prop} {h : Heap} {D : Addr} {n : Nat} (x : AccAt true w M h D ((List.replicate n [([] : Tab), []]).map tabsD)) :
    ∃ as : List Addr, as.length = n ∧ as.Nodup ∧ (∀ a ∈ as, ¬ M a ∧ ∃ vs m, h.get? a = some ⟨.type "list", none, .seq vs m, #[]⟩) ∧ RowsAt w M h as (List.replicate n [[], []]) ∧ D ∉ as ∧ ∀ N' : Addr → Prop, ¬ N' D → Den w N' h (refsD as) (.ref D) := by
  obtain ⟨vs, c, e, r, ap⟩ := x
  have ap := ap rfl
  have hl := r.length
  simp only [List.length_map, List.length_replicate, Array.length_toList] at hl
  have hget : ∀ p, p < n → ((List.replicate n [([] : Tab), []]).map tabsD)[p]? = some (tabsD [[], []]) := fun p hp => by simp [hp]
  have hrow : ∀ p, p < n → ∃ a, vs.toList[p]? = some (.ref a) ∧ ¬ M a ∧ ∃ us m, h.get? a = some ⟨.type "list", none, .seq us m, #[]⟩ ∧ DenL w M h ([([] : Tab), []].map tabD) us.toList := fun p hp => by
    obtain ⟨v, hv, dv⟩ := r.get (hget p hp)
    obtain ⟨a, rfl⟩ := dv.listRef
    obtain ⟨na, us, m, ea, da⟩ := dv.isList
    exact ⟨a, hv, na, us, m, ea, da⟩
  let as : List Addr := vs.toList.map fun v => match v with | .ref a => a | _ => 0
  have hal : as.length = n := by simp [as, hl]
  have hasp : ∀ p a, p < n → vs.toList[p]? = some (.ref a) → as[p]? = some a := fun p a hp ev => by simp only [as, List.getElem?_map, ev, Option.map_some]
  have hat : ∀ p a, as[p]? = some a → p < n ∧ vs.toList[p]? = some (.ref a) := fun p a ea => by
    have hp : p < n := by have := (List.getElem?_eq_some_iff.mp ea).1; omega
    obtain ⟨a', ev, _⟩ := hrow p hp
    rw [hasp p a' hp ev] at ea; cases ea
    exact ⟨hp, ev⟩
  have hmem : ∀ a ∈ as, ∃ p, p < n ∧ vs.toList[p]? = some (.ref a) ∧ ¬ M a ∧ ∃ us m, h.get? a = some ⟨.type "list", none, .seq us m, #[]⟩ ∧ DenL w M h ([([] : Tab), []].map tabD) us.toList := fun a ma => by
    obtain ⟨p, hp⟩ := List.mem_iff_getElem?.mp ma
    obtain ⟨q1, q2⟩ := hat p a hp
    obtain ⟨a', ev, r'⟩ := hrow p q1
    rw [q2] at ev; cases ev
    exact ⟨p, q1, q2, r'⟩
  refine ⟨as, hal, ?_, fun a ma => ?_, ⟨by rw [hal, List.length_replicate], fun p a r' h1 h2 => ?_⟩, fun q => ?_, fun N' hN' => .list hN' e ?_⟩
  · refine List.pairwise_iff_getElem.mpr fun i j hi hj hij q => ?_
    have hjn : j < n := by omega
    have h1 := hat j _ (List.getElem?_eq_getElem hj)
    have h2 := hat i _ ((List.getElem?_eq_getElem hi).trans (congrArg some q))
    exact ap i j _ _ _ hij (hget i (by omega)) (hget j hjn) rfl rfl h2.2 h1.2
  · obtain ⟨p, _, _, na, us, m, ea, _⟩ := hmem a ma
    exact ⟨na, us, m, ea⟩
  · obtain ⟨q1, q2⟩ := hat p a h1
    obtain ⟨a', ev, na, us, m, ea, da⟩ := hrow p q1
    rw [q2] at ev; cases ev
    have : r' = [[], []] := List.eq_of_mem_replicate (List.mem_of_getElem? h2)
    subst this
    exact ⟨us, m, ea, da⟩
  · obtain ⟨p, hp, ev, na, us, m, ea, da⟩ := hmem D q
    rw [e] at ea; cases ea
    obtain ⟨a, ev0, _, us', m', ea', _⟩ := hrow 0 (by omega)
    cases hvs : vs.toList with
    | nil => rw [hvs] at ev0; simp at ev0
    | cons u us0 =>
      rw [hvs] at da ev0
      cases da with
      | cons d0 _ =>
        simp at ev0; subst ev0
        generalize hd : tabD ([] : Tab) = d at d0
        cases d0 with
        | dict nn ee _ _ => have := ee.symm.trans ea'; simp at this
        | opn _ => simp [tabD, tabKV] at hd
        | tuple _ _ _ _ => simp [tabD] at hd
        | list _ _ _ => simp [tabD] at hd
  · have key : ∀ (us : List Value), (∀ v ∈ us, ∃ a, v = .ref a) → DenL w N' h ((us.map fun v => match v with | .ref a => a | _ => 0).map refD) us := by
      intro us
      induction us with
      | nil => intro _; exact .nil
      | cons u us ih =>
        intro hu
        obtain ⟨a, rfl⟩ := hu u (List.mem_cons_self ..)
        exact .cons (.opn a) (ih fun v m => hu v (List.mem_cons_of_mem _ m))
    refine key vs.toList fun v mv => ?_
    obtain ⟨p, hp⟩ := List.mem_iff_getElem?.mp mv
    have hpn : p < n := by have := (List.getElem?_eq_some_iff.mp hp).1; simp at this; omega
    obtain ⟨a, ev, _⟩ := hrow p hpn
    rw [hp] at ev; cases ev
    exact ⟨a, rfl⟩
end
end Mine

namespace Mine
open Sem (wp)

section
variable {g : G} {prog : Program} {w : World} {k j : Nat} {sc : Scope} {φ φ₁ φ₂ φ₃ : Bool} {ρ ρ' ρ₁ ρ₂ : Rho} {N N₂ : Addr → Prop} {env : Env} {e : Expr} {pos : Pos} {body rest : List Stmt}

theorem tie_keys {l : List (Nat × Nat)} {f : Nat → Nat → Nat} : ∀ p ∈ tieT l f, isKey p.1 = true := fun p m => by
  obtain ⟨q, _, rfl⟩ := List.mem_map.mp m
  exact pk_ok _ _
theorem runL_take {f : Nat → Nat → Nat} {l : List (Nat × Nat)} {T : List (List Tab)} {i : Nat} {a : Nat × Nat} (h : l[i]? = some a) : runL f (l.take (i + 1)) T = stepTwo f (runL f (l.take i) T) a := by
  unfold runL
  rw [List.take_add_one, h, List.foldl_append]; rfl
set_option maxHeartbeats 4000000 in
theorem counts_run {n : Nat} {l : List (Nat × Nat)} {f : Nat → Nat → Nat} {fa fc : Addr} (hn : n ≤ 8) (hl : ∀ p ∈ l, p.1 < n ∧ p.2 < n) (hlen : l.length ≤ 100) (hf : ∀ p ∈ l, f p.1 p.2 < 2) (br : BN g "range" (.type "range")) (fadd : FN g "add_callers" fa)
    (hadd : ∀ t key, tabOk t → isKey key = true → t.length < sizeLine → Fn g prog w k true (.ref fa) [tabD t, .dict [(key, .int 1)]] (tabD (bumpT t key)))
    (fcnt : FN g "count_calls" fc) (hcnt : ∀ t, (∀ p ∈ t, isKey p.1 = true) → Fn g prog w k false (.ref fc) [tabD t] (.int (totT t))) :
    RunR g prog w k (scp 7) false [("ties", tabD (tieT l f)), ("many", .int n)] (fBody (stm 7)) (rowsD ((turnsT f l n 2).map fun r => r.map totT)) := by
  intro A env N s Q E hs hr z hQ
  have hs24 : sizeLine = 2 ^ 24 := rfl
  have hfl : ((List.range n).filter fun _ => true).map (fun _ => tabsD [([] : Tab), []]) = (List.replicate n [([] : Tab), []]).map tabsD := by
    rw [List.filter_eq_self.mpr fun _ _ => rfl, List.map_const', List.length_range, List.map_replicate]
  rw [show fBody (stm 7) = _ :: _ from rfl, execs_cons]
  refine wpAny_bind (assignComp_core (φ := true) (T := ["place"]) (out := (List.replicate n [([] : Tab), []]).map tabsD) (Src.eq (ds' := (List.range n).map fun i : Nat => PyData.int (i : Int)) (by rw [Int.toNat_natCast]; rfl) (Src.range (n := (n : Int)) (br.at rfl) (Ev.name (d := .int (n : Int)) rfl) (by omega) (by omega)))
    (LoopOk.eq hfl (loop_last (l := List.range n) (f := fun i : Nat => PyData.int (i : Int)) (p := fun _ => true) (xs := ["place"]) (T := ["place"]) (out := fun _ => tabsD [[], []]) rfl rfl (fun r m => .name) (ownNames_none (T := ["place"]) (by decide)) (by decide) (by decide) (fun r m => Trs.nil)
      (fun r m _ => Ev.cong (Ev.lst (EvL.cons Ev.dict0 (EvL.cons Ev.dict0 .nil))) rfl)))
    (by simp; omega) (by decide) (by decide) (by decide) (fun _ _ => rfl) (fun env h => by cases env; cases h; rfl) hs hr z fun h₁ D C m₁ hD hC hCD hnC ha => ?_)
  obtain ⟨as, hal, hand, hasM, hra₁, hDas, hden⟩ := rows_open ha
  have has : ∀ a ∈ as, s.heap.get? a = none := fun a ma => by
    cases e : s.heap.get? a with
    | none => rfl
    | some o => exact absurd (.inr ⟨rfl, by rw [e]; rfl⟩) (hasM a ma).1
  have hasC : ∀ a ∈ as, a ≠ C := fun a ma q => (hasM a ma).1 (.inl (.inr q))
  refine ⟨fun b => b ∈ as, refsD as, fun b q => ⟨has b q, by obtain ⟨vs, m, e⟩ := (hasM b q).2; rw [e]; rfl, hasC b q⟩, hden _ fun q => ?_, fun h₂ t₂ m₂ hk₂ c₂ z₂ => ?_⟩
  · rcases q with q | q | q
    · exact z.cx.fresh hD q
    · exact hDas q
    · exact hCD q.symm
  have hoff : ∀ b ∈ as, OffOwn g env b := fun b q => ⟨fun o => z.cx.fresh (has b q) (z.ok.own b o).1, z.cx.baseFresh (has b q), fun t => z.cx.fresh (has b q) (z.cx.tabs b t)⟩
  have hra₂ : RowsAt w (fun b => N b ∨ b ∈ as) h₂ as (turnsT f l n 0) := ⟨hra₁.1, fun p a r h1 h2 => by
    obtain ⟨vs, m, e, d⟩ := hra₁.2 p a r h1 h2
    have ma := List.mem_of_getElem? h1
    refine ⟨vs, m, hk₂ a _ (hasC a ma) (has a ma) e, ?_⟩
    have hr0 : r = [[], []] := List.eq_of_mem_replicate (List.mem_of_getElem? h2)
    have d' : DenL w (fun b => N b ∨ (b ∈ as ∨ b = C)) h₁ (r.map tabD) vs.toList := tabs_widen d (fun t mt p mp => by rw [hr0] at mt; simp at mt; subst mt; cases mp) fun b es c eb q => by
      rcases q with q | q | q
      · exact .inl (.inl q)
      · obtain ⟨us, m', e'⟩ := (hasM b q).2
        rw [eb] at e'; simp at e'
      · exact .inl (.inr q)
    exact (d'.chg c₂ fun _ _ n => n).weaken fun b _ q => q.elim .inl fun q => .inr (.inl q)⟩
  have stab : ∀ (T : Nat → List (List Tab)) (N' : Addr → Prop) (i : Nat) (h h' : Heap), RowsAt w N' h as (T i) → Chg N' h h' → (∀ b o, b ∈ as → h.get? b = some o → h'.get? b = some o) → RowsAt w N' h' as (T i) := fun T N' i h h' x c kk =>
    ⟨x.1, fun p a r h1 h2 => let ⟨vs, m, e, d⟩ := x.2 p a r h1 h2; ⟨vs, m, kk a _ (List.mem_of_getElem? h1) e, d.chg c fun _ _ n => n⟩⟩
  have start : ∀ (T : List (List Tab)) (N₀ N' : Addr → Prop) (h h' : Heap), (∀ a, g.T a → N₀ a) → RowsAt w N₀ h as T → Mv g noO h h' → (∀ b, N' b → N₀ b ∨ h.get? b = none) → RowsAt w N' h' as T := fun T N₀ N' h h' hT x m hN =>
    ⟨x.1, fun p a r h1 h2 => let ⟨vs, c, e, d⟩ := x.2 p a r h1 h2; ⟨vs, c, m.keep _ _ e (.inl ⟨(hoff a (List.mem_of_getElem? h1)).2.2, id⟩), d.chg (m.chg hT fun _ q => q.elim) fun b hb q => (hN b q).elim id fun q => by rw [q] at hb; cases hb⟩⟩
  show wpAny _ A (execs (_ :: _) env) Q E _
  rw [execs_cons]
  refine wpAny_bind (for_run (l := List.range 2) (f := fun i : Nat => PyData.int (i : Int)) (s := { s with heap := h₂, toks := t₂ }) (R := fun _ => [("rows", refsD as), ("ties", tabD (tieT l f)), ("many", .int (n : Int))]) (K := fun N' i h => RowsAt w N' h as (turnsT f l n i)) (O := fun b => b ∈ as)
    (Src.eq rfl (Src.range (n := 2) (br.at rfl) (Ev.int (φ := false)) (by decide) (by decide))) (fun _ _ => rfl) hs hr z₂ (fun _ _ q => q) (fun b q => ⟨.inr q, (hoff b q).2.1⟩) (fun h' N' m _ hN' => start _ _ _ _ _ z₂.cx.tabs hra₂ m hN') (fun N' i h h' hN x c kk => stab (fun i => turnsT f l n i) N' i h h' x c fun b o mb e => kk b o (.inr mb) e)
    (fun i a N' h tk v Q' E' hi hN z' hK dv hQ' => ?_) fun h₃ t₃ N' m₃ z₃ hN' hra₃ => ?_)
  · -- one turn
    have hi2 : i < 2 := by have := (List.getElem?_eq_some_iff.mp hi).1; simpa using this
    have hgT := turnsT_good (f := f) hl hf i
    refine assign_sound (ρ' := [("turn", .int (a : Int)), ("rows", refsD as), ("ties", tabD (tieT l f)), ("many", .int (n : Int))]) (xs := ["turn"]) .name hs hr.handled (by decide) (s := { s with heap := h, toks := tk }) z' dv fun h₄ t₄ m₄ z₄ => ?_
    have hra₄ : RowsAt w N' h₄ as (turnsT f l n i) := hK.mv m₄ z'.cx.tabs (fun b o => (z'.ok.own b o.own).1) fun b mb => ⟨(hoff b mb).2.2, fun o => (hoff b mb).1 o.own⟩
    show wpAny _ A (execs [_] env) _ _ _
    rw [execs_cons]
    refine wpAny_bind (for_run (l := l) (f := fun p : Nat × Nat => PyData.tuple [pk p.1 p.2, .int (f p.1 p.2 : Int)]) (s := { s with heap := h₄, toks := t₄ }) (R := fun _ => [("rows", refsD as), ("ties", tabD (tieT l f)), ("many", .int (n : Int))]) (K := fun N' i' h => RowsAt w N' h as (runL f (l.take i') (turnsT f l n i))) (O := fun b => b ∈ as)
      (Src.eq (by simp [itemsD, tabKV, tieT]) (Src.items (kvs := tabKV (tieT l f)) (Ev.name rfl) (tab_open tie_keys))) (fun _ _ => rfl) hs hr z₄ (subCons rfl (subCons rfl (subCons rfl subNil))) (fun b q => ⟨hN b (.inr q), (hoff b q).2.1⟩) (fun h' N₂ m _ hN₂ => start _ _ _ _ _ z₄.cx.tabs hra₄ m hN₂) (fun N₂ i' h h' hN₂ x c kk => stab (fun i' => runL f (l.take i') (turnsT f l n i)) N₂ i' h h' x c fun b o mb e => kk b o (hN b (.inr mb)) e)
      (fun i' p N₂ h tk v Q₂ E₂ hp hN₂ z₅ hK₅ dv₅ hQ₂ => ?_) fun h₅ t₅ N₂ m₅ z₅ hN₂ hra₅ => ?_)
    · -- one tie
      have hpm := List.mem_of_getElem? hp
      obtain ⟨hp1, hp2⟩ := hl p hpm
      have hpf := hf p hpm
      have hG : GoodR n 1000 (runL f (l.take i') (turnsT f l n i)) := (runL_good (m := 0) hgT (fun q m => hl q (List.mem_of_mem_take m)) fun q m => hf q (List.mem_of_mem_take m)).mono (by
        have h1 : i * (2 * l.length) ≤ 1 * 200 := Nat.mul_le_mul (by omega) (by omega)
        rw [List.length_take]; omega)
      generalize hT0 : runL f (l.take i') (turnsT f l n i) = T0 at hG hK₅
      have hG1 : GoodR n 1001 (stepT T0 p.1 (f p.1 p.2) p.2) := stepT_good hG hp1 hpf
      refine assign_sound (ρ' := [("colour", .int (f p.1 p.2 : Int)), ("other", .int (p.2 : Int)), ("one", .int (p.1 : Int)), ("rows", refsD as), ("ties", tabD (tieT l f)), ("many", .int (n : Int))]) (xs := ["one", "other", "colour"]) (.tup (.cons (.tup (.cons .name (.cons .name .nil))) (.cons .name .nil))) hs hr.handled (by decide) (s := { s with heap := h, toks := tk }) z₅ dv₅ fun h₆ t₆ m₆ z₆ => ?_
      have hra₆ : RowsAt w N₂ h₆ as T0 := hK₅.mv m₆ z₅.cx.tabs (fun b o => (z₅.ok.own b o.own).1) fun b mb => ⟨(hoff b mb).2.2, fun o => (hoff b mb).1 o.own⟩
      have hoff₂ : ∀ b ∈ as, N₂ b ∧ OffOwn g env b := fun b mb => ⟨hN₂ b (hN b (.inr mb)), hoff b mb⟩
      have cellAt : ∀ {T : List (List Tab)} {m : Nat} (hG : GoodR n m T) (x : Nat), x < n → T[x]? = some (T.getD x []) ∧ (T.getD x [])[f p.1 p.2]? = some ((T.getD x []).getD (f p.1 p.2) []) ∧ tabOk ((T.getD x []).getD (f p.1 p.2) []) ∧ ((T.getD x []).getD (f p.1 p.2) []).length ≤ m := fun {T m} hG x hx => by
        have h0 := hG.2 _ (getD_mem (d := []) (show x < T.length by rw [hG.1]; exact hx))
        have h1 := h0.2 _ (getD_mem (d := []) (show f p.1 p.2 < (T.getD x []).length by rw [h0.1]; exact hpf))
        exact ⟨getD_of (by rw [hG.1]; exact hx), getD_of (by rw [h0.1]; exact hpf), h1.1, h1.2⟩
      have asAt : ∀ x, x < n → ∃ a, as[x]? = some a := fun x hx => ⟨as[x]'(by rw [hal]; exact hx), by simp [hal, hx]⟩
      obtain ⟨a1, ha1⟩ := asAt p.1 hp1
      obtain ⟨a2, ha2⟩ := asAt p.2 hp2
      obtain ⟨c1, c2, c3, c4⟩ := cellAt hG p.1 hp1
      obtain ⟨d1, d2, d3, d4⟩ := cellAt hG1 p.2 hp2
      have z₆' : St g w N₂ env h₆ (("rows", refsD as) :: [("colour", .int (f p.1 p.2 : Int)), ("other", .int (p.2 : Int)), ("one", .int (p.1 : Int)), ("ties", tabD (tieT l f)), ("many", .int (n : Int))]) := z₆.weaken (subCons rfl (subCons rfl (subCons rfl (subCons rfl (subCons rfl (subCons rfl subNil))))))
      show wpAny _ A (execs (_ :: _) env) _ _ _
      rw [execs_cons]
      refine wpAny_bind (set_row (s := { s with heap := h₆, toks := t₆ }) (as := as) (T := T0) (p := p.1) (c := f p.1 p.2) (q := p.2) (a := a1) (fadd.at rfl) hadd rfl rfl rfl rfl rfl ⟨by decide, by decide⟩ ⟨by decide, by decide⟩ hand hoff₂ ha1 c1 c2 (by omega) (by omega) c3 (by omega) hs hr z₆' hra₆ fun h₇ t₇ m₇ z₇ hra₇ => ?_)
      show wpAny _ A (execs [_] env) _ _ _
      rw [execs_cons]
      refine wpAny_bind (set_row (s := { s with heap := h₇, toks := t₇ }) (as := as) (T := stepT T0 p.1 (f p.1 p.2) p.2) (p := p.2) (c := f p.1 p.2) (q := p.1) (a := a2) (fadd.at rfl) hadd rfl rfl rfl rfl rfl ⟨by decide, by decide⟩ ⟨by decide, by decide⟩ hand hoff₂ ha2 d1 d2 (by omega) (by omega) d3 (by omega) hs hr z₇ hra₇ fun h₈ t₈ m₈ z₈ hra₈ => wpAny_execs_nil ⟨rfl, ?_⟩)
      refine hQ₂ h₈ t₈ (((m₆.mono fun b o => .inl o.c).trans (m₇.mono fun b q => .inr (q ▸ List.mem_of_getElem? ha1))).trans (m₈.mono fun b q => .inr (q ▸ List.mem_of_getElem? ha2))) (z₈.weaken (subCons rfl (subCons rfl (subCons rfl subNil)))) ?_
      rw [runL_take hp, hT0]
      exact hra₈
    · rw [List.take_length] at hra₅
      refine wpAny_execs_nil ⟨rfl, hQ' h₅ t₅ ((m₄.mono fun b o => .inl o.c).trans m₅) z₅ ?_⟩
      exact ⟨hra₅.1, fun p a r h1 h2 => let ⟨vs, m, e, d⟩ := hra₅.2 p a r h1 h2; ⟨vs, m, e, d.weaken fun b _ q => hN₂ b q⟩⟩
  · have hG := turnsT_good (f := f) hl hf 2
    have z₄ : St g w N env h₃ (("rows", tabRowsD (turnsT f l n 2)) :: [("ties", tabD (tieT l f)), ("many", .int (n : Int))]) := St.recast z₃ (fun b n => .inl n) z.cx.mods z.cx.tabs (fun b o => (z.ok.own b o).1) fun v dv => rows_close dv hra₃ (fun b n => .inl n) (fun b n => hN' b (.inl n)) fun b mb n => z.cx.fresh (has b mb) n
    generalize turnsT f l n 2 = T at hG z₄ hQ
    have hkey : ∀ r ∈ T, ∀ t ∈ r, ∀ p ∈ t, isKey p.1 = true := fun r mr t mt => ((hG.2 r mr).2 t mt).1.1
    refine RunR.ret (rest := []) (φ := false) (d := rowsD (T.map fun r => r.map totT)) (Ev.cong (Ev.comp0 (φ := false) (l := T) (f := tabsD) (out := fun r => rowD (r.map totT)) (Src.list (Ev.name (d := tabRowsD T) rfl)) (fun r m => .name)
      (fun r m => Ev.cong (Ev.comp0 (φ := false) (l := r) (f := tabD) (out := fun t => .int (totT t)) (Src.list (Ev.name (d := tabsD r) rfl)) (fun t mt => .name)
        (fun t mt => Ev.fnF (fcnt.at rfl) (EvL.cons (φ := false) (Ev.name (d := tabD t) rfl) .nil) (hcnt t (hkey r m t mt))) (by rw [(hG.2 r m).1]; omega)) (by simp [rowD])) (by rw [hG.1]; omega)) (by simp [rowsD])) A env N { s with heap := h₃, toks := t₃ } Q E hs hr z₄ fun h₄ t₄ v m₄ d₄ => ?_
    refine hQ h₄ t₄ v ((m₂.fresh m₃ fun b q => q.elim .inl fun q => .inr (has b q)).trans m₄) (d₄.weaken fun b _ (q : N b ∨ (false = true ∧ (s.heap.get? b).isSome)) => q.elim .inl fun q => absurd q.1 (by simp))
end
end Mine

namespace Mine
open Sem (wp)

noncomputable def monoB (f : Nat → Nat → Int) (a b c : Nat) : Bool := f a b == f a c && f a c == f b c
noncomputable def t3 (a b c : Nat) : PyData := .tuple [.int a, .int b, .int c]
noncomputable def threesL (n : Nat) (f : Nat → Nat → Int) : List PyData := (List.range n).flatMap fun c => (List.range c).flatMap fun b => ((List.range b).filter fun a => monoB f a b c).map fun a => t3 a b c

theorem flatMap_len {α β : Type} {l : List α} {f : α → List β} {m : Nat} (h : ∀ a ∈ l, (f a).length ≤ m) : (l.flatMap f).length ≤ l.length * m := by
  induction l with
  | nil => simp
  | cons a l ih =>
    rw [List.flatMap_cons, List.length_append, List.length_cons, Nat.succ_mul]
    have := h a (List.mem_cons_self ..)
    have := ih fun b m => h b (List.mem_cons_of_mem _ m)
    omega
theorem threes_len {n : Nat} {f : Nat → Nat → Int} (hn : n ≤ 8) : (threesL n f).length ≤ 512 := by
  have h1 : ∀ c, c < 8 → ((List.range c).flatMap fun b => ((List.range b).filter fun a => monoB f a b c).map fun a => t3 a b c).length ≤ 64 := fun c hc => by
    have := flatMap_len (l := List.range c) (m := 8) (f := fun b => ((List.range b).filter fun a => monoB f a b c).map fun a => t3 a b c) fun b m => by
      rw [List.length_map]
      have h2 := List.length_filter_le (fun a => monoB f a b c) (List.range b)
      rw [List.length_range] at h2
      have := List.mem_range.mp m
      omega
    rw [List.length_range] at this
    omega
  have := flatMap_len (l := List.range n) (m := 64) (f := fun c => (List.range c).flatMap fun b => ((List.range b).filter fun a => monoB f a b c).map fun a => t3 a b c) fun c m => h1 c (by have := List.mem_range.mp m; omega)
  rw [List.length_range] at this
  unfold threesL
  omega

section
variable {g : G} {prog : Program} {w : World} {k j : Nat} {sc : Scope} {φ φ₁ φ₂ φ₃ : Bool} {ρ ρ' ρ₁ ρ₂ : Rho} {N N₂ : Addr → Prop} {env : Env} {e : Expr} {pos : Pos} {body rest : List Stmt}

/-- t[x, y] -/
theorem ev_pair {t : Tab} {f : Nat → Nat → Int} {a b : Nat} {et ex ey : Expr} {m : Nat} {tp : Pos} (xt : Ev g prog w k sc φ₁ ρ et (tabD t)) (xa : Ev g prog w k sc false ρ ex (.int a)) (xb : Ev g prog w k sc false ρ ey (.int b)) (hl : lookD (tabKV t) (pk a b) = some (.int (f a b)))
    (h1 : ∀ env, starEach [ex, ey] env = (false, eval ex env) :: starEach [ey] env := by intro _; rfl) (h2 : ∀ env, starEach [ey] env = (false, eval ey env) :: starEach [] env := by intro _; rfl) :
    Ev g prog w k sc false ρ (.Subscript et (.Tuple [ex, ey] m tp) pos) (.int (f a b)) :=
  Ev.sub (φ₂ := false) xt (Ev.tup (EvL.cons xa (EvL.cons xb .nil h2) h1)) (Op2.key (pk_ok a b) hl)

theorem threes_run {n : Nat} {t : Tab} {f : Nat → Nat → Int} (hn : n ≤ 8) (hlook : ∀ a b, a < b → b < n → lookD (tabKV t) (pk a b) = some (.int (f a b))) (br : BN g "range" (.type "range")) :
    RunR g prog w k (scp 8) false [("ties", tabD t), ("many", .int n)] (fBody (stm 8)) (.list (threesL n f)) := by
  have hs : sizeLine = 2 ^ 24 := rfl
  have e : ∀ l : List Nat, (l.filter fun _ => true) = l := fun l => List.filter_eq_self.mpr fun _ _ => rfl
  have hfl : ((List.range n).filter fun _ => true).flatMap (fun c => ((List.range c).filter fun _ => true).flatMap fun b => ((List.range b).filter fun a => monoB f a b c).map fun a => t3 a b c) = threesL n f := by
    simp only [e]; rfl
  refine RunR.ret (Ev.comp (φ := false) (T := ["c", "b", "a"]) (ds := (List.range n).map fun i : Nat => PyData.int (i : Int)) (Src.eq (by rw [Int.toNat_natCast]; rfl) (Src.range (n := (n : Int)) (br.at rfl) (Ev.name (d := .int (n : Int)) rfl) (by omega) (by omega)))
    (LoopOk.eq hfl (loop_more (xs := ["c"]) (p := fun _ => true) (f := fun i : Nat => PyData.int (i : Int)) (ds := fun c => (List.range c).map fun i : Nat => PyData.int (i : Int)) rfl rfl (fun _ _ => rfl) (fun c mc => .name) (ownNames_none (T := ["c"]) (by decide)) (by decide) (by decide) (fun c mc => Trs.nil)
      (fun c mc _ => Src.eq (by rw [Int.toNat_natCast]; rfl) (Src.range (n := (c : Int)) (br.at rfl) (Ev.name (d := .int (c : Int)) rfl) (by omega) (by have := List.mem_range.mp mc; omega)))
      fun c mc _ => loop_more (xs := ["b"]) (p := fun _ => true) (f := fun i : Nat => PyData.int (i : Int)) (ds := fun b => (List.range b).map fun i : Nat => PyData.int (i : Int)) rfl rfl (fun _ _ => rfl) (fun b mb => .name) rfl (by decide) (by decide) (fun b mb => Trs.nil)
        (fun b mb _ => Src.eq (by rw [Int.toNat_natCast]; rfl) (Src.range (n := (b : Int)) (br.at rfl) (Ev.name (d := .int (b : Int)) rfl) (by omega) (by have := List.mem_range.mp mc; have := List.mem_range.mp mb; omega)))
        fun b mb _ => loop_last (xs := ["a"]) (p := fun a => monoB f a b c) (f := fun i : Nat => PyData.int (i : Int)) (out := fun a => t3 a b c) rfl rfl (fun a ma => .name) rfl (by decide) (by decide)
          (fun a ma => by
            have h1 := List.mem_range.mp mc
            have h2 := List.mem_range.mp mb
            have h3 := List.mem_range.mp ma
            refine Trs.one (Tr.cong (Tr.chain (φ := false) (i := f a b) (cs := [(.Eq, f a c), (.Eq, f b c)]) (ev_pair (φ₁ := false) (Ev.name (d := tabD t) rfl) (Ev.name rfl) (Ev.name rfl) (hlook a b h3 (by omega))) (.eq (ev_pair (φ₁ := false) (Ev.name (d := tabD t) rfl) (Ev.name rfl) (Ev.name rfl) (hlook a c (by omega) h1)) (.eq (ev_pair (φ₁ := false) (Ev.name (d := tabD t) rfl) (Ev.name rfl) (Ev.name rfl) (hlook b c h2 h1)) .nil))) ?_)
            simp [chainI, cmpI, monoB])
          fun a ma _ => Ev.tup (EvL.cons (Ev.name rfl) (EvL.cons (Ev.name rfl) (EvL.cons (Ev.name rfl) .nil)))))
    (by have := threes_len (f := f) hn; omega) (by decide) (by decide) (fun _ _ => rfl))
end
end Mine

namespace Mine
open Sem (wp)

/-! tables by pairs of places -/
noncomputable def prsN (n : Nat) : List (Nat × Nat) := (List.range n).flatMap fun b => (List.range b).map fun a => (a, b)
noncomputable def kt (l : List (Nat × Nat)) (k : Nat × Nat → Nat × Nat) (v : Nat × Nat → Int) : Tab := l.map fun p => (pk (k p).1 (k p).2, v p)
theorem kt_tie (l : List (Nat × Nat)) (f : Nat → Nat → Nat) : tieT l f = kt l id fun p => (f p.1 p.2 : Int) := rfl
theorem pk_inj {a b c d : Nat} (h : pk a b = pk c d) : a = c ∧ b = d := by
  simp only [pk, PyData.tuple.injEq, List.cons.injEq, PyData.int.injEq, and_true] at h
  omega
theorem pk_eqv {a b c d : Nat} : PyData.eqv (pk a b) (pk c d) = true ↔ (a, b) = (c, d) := by
  rw [eqv_iff (pk_ok a b) (pk_ok c d)]
  constructor
  · intro h; have := pk_inj h; simp [this]
  · intro h; cases h; rfl
theorem kt_keys {l : List (Nat × Nat)} {k : Nat × Nat → Nat × Nat} {v : Nat × Nat → Int} : ∀ p ∈ kt l k v, isKey p.1 = true := fun p m => by
  obtain ⟨q, _, rfl⟩ := List.mem_map.mp m
  exact pk_ok _ _
theorem kt_ok {l : List (Nat × Nat)} {k : Nat × Nat → Nat × Nat} {v : Nat × Nat → Int} (h : (l.map k).Nodup) : tabOk (kt l k v) := by
  refine ⟨kt_keys, ?_⟩
  rw [kt, List.map_map]
  have : ((fun x : PyData × Int => x.1) ∘ fun p => (pk (k p).1 (k p).2, v p)) = (fun q : Nat × Nat => pk q.1 q.2) ∘ k := rfl
  rw [this, ← List.map_map]
  refine List.Pairwise.map _ (fun a b hab q => hab ?_) h
  have := pk_inj q
  exact Prod.ext this.1 this.2
theorem kt_look {l : List (Nat × Nat)} {k : Nat × Nat → Nat × Nat} {v : Nat × Nat → Int} (h : (l.map k).Nodup) {p : Nat × Nat} (hp : p ∈ l) : lookD (tabKV (kt l k v)) (pk (k p).1 (k p).2) = some (.int (v p)) := by
  induction l with
  | nil => cases hp
  | cons q l ih =>
    rw [List.map_cons, List.nodup_cons] at h
    show (if PyData.eqv (pk (k q).1 (k q).2) (pk (k p).1 (k p).2) = true then some (PyData.int (v q)) else lookD (tabKV (kt l k v)) (pk (k p).1 (k p).2)) = _
    by_cases e : k q = k p
    · rw [if_pos (pk_eqv.mpr (by rw [e]))]
      rcases List.mem_cons.mp hp with rfl | hp
      · rfl
      · exact absurd (List.mem_map.mpr ⟨p, hp, e.symm⟩) h.1
    · rw [if_neg fun z => e (by have := pk_eqv.mp z; exact Prod.ext (congrArg Prod.fst this) (congrArg Prod.snd this))]
      rcases List.mem_cons.mp hp with rfl | hp
      · exact absurd rfl e
      · exact ih h.2 hp
theorem kt_put {l : List (Nat × Nat)} {v : Nat × Nat → Int} (h : l.Nodup) {p : Nat × Nat} {x : Int} (hp : p ∈ l) : putD (tabKV (kt l id v)) (pk p.1 p.2) (.int x) = tabKV (kt l id fun q => if q = p then x else v q) := by
  induction l with
  | nil => cases hp
  | cons q l ih =>
    rw [List.nodup_cons] at h
    show (if PyData.eqv (pk q.1 q.2) (pk p.1 p.2) = true then (pk q.1 q.2, PyData.int x) :: tabKV (kt l id v) else (pk q.1 q.2, PyData.int (v q)) :: putD (tabKV (kt l id v)) (pk p.1 p.2) (.int x)) = (pk q.1 q.2, PyData.int (if q = p then x else v q)) :: tabKV (kt l id fun q => if q = p then x else v q)
    by_cases e : q = p
    · subst e
      rw [if_pos (pk_eqv.mpr rfl), if_pos rfl]
      congr 1
      unfold tabKV kt
      rw [List.map_map, List.map_map]
      refine List.map_congr_left fun r mr => ?_
      have : r ≠ q := fun z => h.1 (z ▸ mr)
      simp [this]
    · rw [if_neg fun z => e (pk_eqv.mp z), if_neg e, ih h.2 (by rcases List.mem_cons.mp hp with rfl | hp; exact absurd rfl e; exact hp)]

theorem prs_mem {n : Nat} {p : Nat × Nat} : p ∈ prsN n ↔ p.1 < p.2 ∧ p.2 < n := by
  simp only [prsN, List.mem_flatMap, List.mem_map, List.mem_range]
  constructor
  · rintro ⟨b, hb, a, ha, rfl⟩; exact ⟨ha, hb⟩
  · rintro ⟨h1, h2⟩; exact ⟨p.2, h2, p.1, h1, rfl⟩
theorem prs_nodup {n : Nat} (h : n = 4 ∨ n = 5 ∨ n = 6) : (prsN n).Nodup := by rcases h with rfl | rfl | rfl <;> decide
theorem prs_len {n : Nat} (h : n ≤ 8) : (prsN n).length ≤ 64 := by
  have := flatMap_len (l := List.range n) (m := 8) (f := fun b => (List.range b).map fun a => (a, b)) fun b m => by
    rw [List.length_map, List.length_range]; have := List.mem_range.mp m; omega
  rw [List.length_range] at this
  unfold prsN; omega

/-! colours from the figures -/
noncomputable def figsN (n x : Nat) : List Int := bitsL (prsN n).length x
noncomputable def colF (n x : Nat) (a b : Nat) : Nat := ((figsN n x).getD (b * (b - 1) / 2 + a) 0).toNat
theorem figsN_len (n x : Nat) : (figsN n x).length = (prsN n).length := bitsL_len _ _
theorem map_getD {α : Type} (d : α) : ∀ (l : List α), (List.range l.length).map (fun i => l.getD i d) = l := fun l => by
  apply List.ext_getElem?
  intro i
  rw [List.getElem?_map]
  by_cases h : i < l.length
  · rw [List.getElem?_range h]; simp [h]
  · rw [List.getElem?_eq_none (by simpa using h), List.getElem?_eq_none (by simpa using h)]; rfl
theorem prs_idx {n : Nat} (h : n = 4 ∨ n = 5 ∨ n = 6) : (prsN n).map (fun p => p.2 * (p.2 - 1) / 2 + p.1) = List.range (prsN n).length := by rcases h with rfl | rfl | rfl <;> decide
theorem getD01 {r : List Int} (h : bits01 r) (i : Nat) : r.getD i 0 = 0 ∨ r.getD i 0 = 1 := getD_bits h i
theorem colF_figs {n x : Nat} (h : n = 4 ∨ n = 5 ∨ n = 6) : (prsN n).map (fun p => (colF n x p.1 p.2 : Int)) = figsN n x := by
  have e : ∀ p : Nat × Nat, (colF n x p.1 p.2 : Int) = (fun i => (figsN n x).getD i 0) (p.2 * (p.2 - 1) / 2 + p.1) := fun p => by
    show ((((figsN n x).getD (p.2 * (p.2 - 1) / 2 + p.1) 0).toNat : Nat) : Int) = (figsN n x).getD (p.2 * (p.2 - 1) / 2 + p.1) 0
    rcases getD01 (bitsL_01 (prsN n).length x) (p.2 * (p.2 - 1) / 2 + p.1) with q | q <;> rw [show figsN n x = bitsL (prsN n).length x from rfl, q] <;> rfl
  have e2 : (prsN n).map (fun p => (colF n x p.1 p.2 : Int)) = ((prsN n).map fun p => p.2 * (p.2 - 1) / 2 + p.1).map fun i => (figsN n x).getD i 0 := by
    rw [List.map_map]; exact List.map_congr_left fun p _ => e p
  rw [e2, prs_idx h, ← figsN_len n x, map_getD]
theorem colF_lt (n x a b : Nat) : colF n x a b < 2 := by
  unfold colF
  rcases getD01 (bitsL_01 (prsN n).length x) (b * (b - 1) / 2 + a) with q | q <;> rw [show figsN n x = bitsL (prsN n).length x from rfl, q] <;> decide

/-! the plain facts that the law asks -/
noncomputable def countsP (n : Nat) (f : Nat → Nat → Nat) : List (List Int) := (turnsT f (prsN n) n 2).map fun r => r.map totT
noncomputable def apartP (n : Nat) (f : Nat → Nat → Nat) : Int := ((countsP n f).map fun r => r.getD 0 0 * r.getD 1 0).sum
noncomputable def ringI (a b : Nat) : Int := if [(1 : Int), 4].any (· == (b : Int) - a) then 1 else 0
noncomputable def asI (f : Nat → Nat → Nat) (a b : Nat) : Int := (f a b : Int)
noncomputable def rot (n : Nat) (p : Nat × Nat) : Nat × Nat := (min ((p.1 + 1) % n) ((p.2 + 1) % n), max ((p.1 + 1) % n) ((p.2 + 1) % n))
noncomputable def unrot (n : Nat) (p : Nat × Nat) : Nat × Nat := if p.1 = 0 then (p.2 - 1, n - 1) else (p.1 - 1, p.2 - 1)
noncomputable def movI (n : Nat) (f : Nat → Nat → Nat) (a b : Nat) : Int := asI f (unrot n (a, b)).1 (unrot n (a, b)).2
noncomputable def updI (f : Nat → Nat → Int) (p : Nat × Nat) (x : Int) (a b : Nat) : Int := if (a, b) = p then x else f a b
noncomputable def bothP (n : Nat) (f : Nat → Nat → Nat) (p : Nat × Nat) : List (Int × Int) :=
  ((List.range n).filter fun q => !(q == p.1 || q == p.2)).map fun q => (asI f (min p.1 q) (max p.1 q), asI f (min p.2 q) (max p.2 q))

structure F1 (n : Nat) (f : Nat → Nat → Nat) : Prop where
  row : ∀ r ∈ countsP n f, ∃ a b : Int, r = [a, b] ∧ 0 ≤ a ∧ 0 ≤ b ∧ a ≤ 100 ∧ b ≤ 100 ∧ a + b = 2 * ((n : Int) - 1) ∧ a.fmod 2 = 0
  a8 : (apartP n f).fmod 8 = 0
  len : ((threesL n (asI f)).length : Int) = ((n : Int) * (n - 1) * (n - 2)).fdiv 6 - (apartP n f).fdiv 8
  two : n = 6 → 2 ≤ (threesL n (asI f)).length
  chg : ∀ p ∈ prsN n, ((threesL n (updI (asI f) p (1 - asI f p.1 p.2))).length : Int) = (threesL n (asI f)).length - (((bothP n f p).filter fun q => q.1 == q.2 && q.2 == asI f p.1 p.2).length : Int) + (((bothP n f p).filter fun q => q.1 == q.2 && q.2 != asI f p.1 p.2).length : Int)
  mov : (threesL n (movI n f)).length = (threesL n (asI f)).length

theorem ring_none : threesL 5 ringI = [] := by decide
theorem turned_same (n : Nat) (f : Nat → Nat → Int) : threesL n (fun a b => 1 - f a b) = threesL n f := by
  have : ∀ a b c, monoB (fun a b => 1 - f a b) a b c = monoB f a b c := fun a b c => by
    have e : ∀ x y : Int, (1 - x == 1 - y) = (x == y) := fun x y => by
      rw [Bool.eq_iff_iff, beq_iff_eq, beq_iff_eq]; omega
    simp only [monoB, e]
  simp only [threesL, this]

/-- the functions of the module, as calls -/
structure Fns1 (g : G) (prog : Program) (w : World) (k : Nat) where
  i2d : Addr
  d2i : Addr
  cnts : Addr
  thr : Addr
  n1 : FN g "_int2digits" i2d
  n2 : FN g "_digits2int" d2i
  n3 : FN g "_law_counts" cnts
  n4 : FN g "_law_threes" thr
  f1 : ∀ x m, Builtin.Int.intBits ((x : Nat) : Int) = m → m ≤ 20 → Fn g prog w k false (.ref i2d) [.int x, .int 1] (.list ((bitsL m x).map .int))
  f2 : ∀ ds, bits01 ds → ds.length ≤ 20 → ds ≠ [] → Fn g prog w k false (.ref d2i) [.list (ds.map .int), .int 1] (.int (valB ds))
  f3 : ∀ n f, n ≤ 8 → (∀ p ∈ prsN n, f p.1 p.2 < 2) → Fn g prog w k false (.ref cnts) [.int (n : Nat), tabD (tieT (prsN n) f)] (rowsD (countsP n f))
  f4 : ∀ n t f, n ≤ 8 → (∀ a b, a < b → b < n → lookD (tabKV t) (pk a b) = some (.int (f a b))) → Fn g prog w k false (.ref thr) [.int (n : Nat), tabD t] (.list (threesL n f))
end Mine

namespace Mine
open Sem (wp)

noncomputable def twosD (n : Nat) : List PyData := (prsN n).map fun p => pk p.1 p.2

section
variable {g : G} {prog : Program} {w : World} {k j : Nat} {sc : Scope} {φ φ₁ φ₂ φ₃ : Bool} {ρ ρ' ρ₁ ρ₂ : Rho} {N N₂ : Addr → Prop} {env : Env} {e : Expr} {pos : Pos} {body rest : List Stmt}

theorem prs_small {n : Nat} (h : n = 4 ∨ n = 5 ∨ n = 6) : 6 ≤ (prsN n).length ∧ (prsN n).length ≤ 15 := by rcases h with rfl | rfl | rfl <;> decide
/-- len of the twos -/
theorem ev_twos {n : Nat} {np : Pos} {et : Expr} (B : BName g sc "len" (.builtin "len")) (hn : n = 4 ∨ n = 5 ∨ n = 6) (x : Ev g prog w k sc φ₁ ρ et (.list (twosD n))) (he : ∀ env, starEach [et] env = [(false, eval et env)] := by intro _; rfl) :
    Ev g prog w k sc φ ρ (.Call (.Name "len" np) [et] [] pos) (.int (((prsN n).length : Nat) : Int)) := by
  have := prs_small hn
  refine Ev.cong (Ev.fnB B (EvL.cons (φ := φ₁) x .nil he) (Fn.len (by simp only [twosD, List.length_map]; omega)) (by decide) he (fun _ => rfl)) (by simp [twosD])

theorem law1_head {n x : Nat} {ns : List Int} (B : Bs g) (F : Fns1 g prog w k) (hn : n = 4 ∨ n = 5 ∨ n = 6) (hns : 4 + ns.sum.fmod 3 = (n : Int)) (hlen : ns.length ≤ 63)
    (hx : (if (ns ++ [0]).getD 0 0 < 0 then -((ns ++ [0]).getD 0 0) else (ns ++ [0]).getD 0 0).fmod (2 ^ (((prsN n).length : Nat) : Int).toNat) = (x : Int))
    (hrest : RunR g prog w k (scp 9) false [("counts", rowsD (countsP n (colF n x))), ("threes", .list (threesL n (asI (colF n x)))), ("ties", tabD (tieT (prsN n) (colF n x))), ("twos", .list (twosD n)), ("many", .int (n : Nat)), ("script", .list (ns.map .int))] ((fBody (stm 9)).drop 7) (.bool true)) :
    RunR g prog w k (scp 9) false [("script", .list (ns.map .int))] (fBody (stm 9)) (.bool true) := by
  have hs : sizeLine = 2 ^ 24 := rfl
  obtain ⟨hm6, hm15⟩ := prs_small hn
  have hn6 : n ≤ 6 := by omega
  generalize hmm : (prsN n).length = m at hm6 hm15 hx
  have hmne : prsN n ≠ [] := by intro q; rw [q] at hmm; simp at hmm; omega
  have hxb : x < 2 ^ m := by
    have h1 := Int.fmod_lt_of_pos (if (ns ++ [0]).getD 0 0 < 0 then -((ns ++ [0]).getD 0 0) else (ns ++ [0]).getD 0 0) (show (0 : Int) < 2 ^ ((m : Int)).toNat from Int.pow_pos (by decide))
    rw [hx, Int.toNat_natCast] at h1
    exact_mod_cast h1
  have hbm : Builtin.Int.intBits (x : Int) ≤ m := intBits_nat hxb
  have h2b : ((Builtin.Int.intBits 2 : Nat) : Int) * (m : Int) ≤ 2 ^ 27 := pow2_fits (by omega)
  have hlt : ∀ {sc : Scope} {ρ : Rho} {et : Expr} {np pos : Pos} (bl : BName g sc "len" (.builtin "len")) (x : Ev g prog w k sc false ρ et (.list (twosD n))) (he : ∀ env, starEach [et] env = [(false, eval et env)]), Ev g prog w k sc false ρ (.Call (.Name "len" np) [et] [] pos) (.int (m : Int)) := fun bl x he => hmm ▸ ev_twos bl hn x he
  -- many
  refine RunR.seq (RunN.assign (d := .int (n : Nat)) (φ := false) (Ev.cong (Ev.bin (φ₁ := false) (φ₂ := false) Ev.int (Ev.bin (φ₁ := false) (φ₂ := false) (Ev.fnB (B.sum.at rfl) (EvL.cons (φ := false) (Ev.name (d := .list (ns.map .int)) rfl) .nil) Fn.sum) Ev.int (Op2.fmod (φ := false) (by decide))) (Op2.add (φ := false))) (congrArg PyData.int hns)) .name (by decide) (fun _ _ => rfl) (fun _ _ => rfl)) ?_
  -- twos
  have e : ∀ l : List Nat, (l.filter fun _ => true) = l := fun l => List.filter_eq_self.mpr fun _ _ => rfl
  have hfl : ((List.range n).filter fun _ => true).flatMap (fun a => ((List.range a).filter fun _ => true).map fun b => pk b a) = twosD n := by
    simp only [e, twosD, prsN, List.map_flatMap, List.map_map]
    rfl
  have htl : (twosD n).length = m := by rw [twosD, List.length_map, hmm]
  refine RunR.seq (RunN.assignComp (φ := false) (out := twosD n) (Src.eq (ds' := (List.range n).map fun i : Nat => PyData.int (i : Int)) (by rw [Int.toNat_natCast]; rfl) (Src.range (n := (n : Int)) (B.range.at rfl) (Ev.name (d := .int (n : Nat)) rfl) (by omega) (by omega)))
    (LoopOk.eq hfl (loop2 (xs := ["other"]) (xs' := ["one"]) (l := List.range n) (f := fun i : Nat => PyData.int (i : Int)) (p := fun _ => true) (l' := fun a => List.range a) (f' := fun _ (i : Nat) => PyData.int (i : Int)) (p' := fun _ _ => true) (out := fun a b => pk b a)
      (fun a m => .name) (fun a m => Trs.nil) (fun a m => Src.eq (by rw [Int.toNat_natCast]; rfl) (Src.range (n := (a : Int)) (B.range.at rfl) (Ev.name (d := .int (a : Int)) rfl) (by omega) (by have := List.mem_range.mp m; omega)))
      (fun a m b m' => .name) (fun a m => rfl) (fun a m b m' => Trs.nil)
      (fun a m b m' _ => Ev.tup (EvL.cons (Ev.name rfl) (EvL.cons (Ev.name rfl) .nil))) (by decide) (fun _ _ => rfl)))
    (by rw [htl]; omega) (by decide) (by decide) (by decide) (fun _ _ => rfl) (fun env h => by cases env; cases h; rfl)) ?_
  -- number
  refine RunR.seq (RunN.assign (d := .int x) (φ := false) (Ev.cong (Ev.bin (φ₁ := false) (φ₂ := false) (Ev.fnB (B.abs.at rfl) (EvL.cons (φ := false) (Ev.sub (φ₁ := false) (φ₂ := false) (Ev.bin (φ₁ := false) (φ₂ := false) (φ := false) (Ev.name (d := .list (ns.map .int)) rfl) (Ev.lst (ds := [.int 0]) (EvL.cons (φ := false) Ev.int .nil)) (Op2.addL (by simp; omega) (fun q => by cases q))) Ev.int (Op2.item (d := .int ((ns ++ [0]).getD 0 0)) (by decide) (by decide) (by cases ns <;> simp))) .nil) Fn.abs)
    (Ev.bin (φ₁ := false) (φ₂ := false) (φ := false) Ev.int (hlt (B.len.at rfl) (Ev.name rfl) (fun _ => rfl)) (Op2.pow (by omega) h2b)) (Op2.fmod (φ := false) (Int.ne_of_gt (Int.pow_pos (by decide))))) (congrArg PyData.int hx)) .name (by decide) (fun _ _ => rfl) (fun _ _ => rfl)) ?_
  -- figures
  have hfig : ((bitsL (Builtin.Int.intBits (x : Int)) x).map PyData.int ++ (List.replicate ((m : Int)).toNat [PyData.int 0]).flatten).take m = (figsN n x).map .int := by
    have hb : x < 2 ^ Builtin.Int.intBits (x : Int) := by
      by_cases q : x = 0
      · subst q; simp [Builtin.Int.intBits]
      · have h0 : Builtin.Int.intBits (x : Int) = x.log2 + 1 := by
          unfold Builtin.Int.intBits
          rw [if_neg (by simpa using q)]; simp
        rw [h0]; exact (Nat.log2_lt q).mp (Nat.lt_succ_self _)
    rw [Int.toNat_natCast, rep_flat, ← List.map_append, ← List.map_take, bits_take hbm hb, figsN, hmm]
  have hfl2 : (figsN n x).length = m := by rw [figsN_len, hmm]
  refine RunR.seq (RunN.assign (d := .list ((figsN n x).map .int)) (φ := false) (Ev.slice (ds := (bitsL (Builtin.Int.intBits (x : Int)) x).map .int ++ (List.replicate ((m : Int)).toNat [PyData.int 0]).flatten) (i := none) (j := some (m : Int)) (m := none)
    (Ev.bin (φ₁ := false) (φ₂ := false) (Ev.fnF (F.n1.at rfl) (EvL.cons (φ := false) (Ev.name (d := .int x) rfl) (EvL.cons (φ := false) Ev.int .nil)) (F.f1 x _ rfl (by omega)))
      (Ev.bin (φ₁ := false) (φ₂ := false) (φ := false) (Ev.lst (ds := [.int 0]) (EvL.cons (φ := false) Ev.int .nil)) (hlt (B.len.at rfl) (Ev.name rfl) (fun _ => rfl)) (Op2.mulL (by simp) (by omega) (by omega) (by simp; omega) (fun q => by cases q)))
      (Op2.addL (by simp [bitsL_len]; omega) (fun q => by cases q)))
    trivial (hlt (B.len.at rfl) (Ev.name rfl) (fun _ => rfl)) trivial (by simp) (by simp [bitsL_len]; omega) (fun N h vs r => hfig ▸ pick_upto N h vs r) (fun q => by cases q) (fun _ _ => ⟨_, rfl⟩)) .name (by decide) (fun _ _ => rfl) (fun _ _ => rfl)) ?_
  -- the digits told back
  have h01 : bits01 (figsN n x) := bitsL_01 _ _
  refine RunR.seq (RunN.ifF (intNe (Ev.fnF (F.n2.at rfl) (EvL.cons (φ := false) (Ev.name (d := .list ((figsN n x).map .int)) rfl) (EvL.cons (φ := false) Ev.int .nil)) (F.f2 _ h01 (by rw [hfl2]; omega) (by intro q; rw [q] at hfl2; simp at hfl2; omega))) (Ev.name (d := .int x) rfl) (by rw [figsN, hmm]; exact valB_bitsL _ _ hxb))) ?_
  -- ties
  have hok : tabOk (tieT (prsN n) (colF n x)) := by rw [kt_tie]; exact kt_ok (by rw [List.map_id]; exact prs_nodup hn)
  have ht1 : (tieT (prsN n) (colF n x)).map (·.1) = twosD n := by simp [tieT, twosD]
  have ht2 : (tieT (prsN n) (colF n x)).map (fun p => PyData.int p.2) = (figsN n x).map .int := by
    rw [← colF_figs hn, tieT, List.map_map, List.map_map]; rfl
  refine RunR.seq (RunN.assign (d := tabD (tieT (prsN n) (colF n x))) (φ := false) (Ev.dictZip (φ₁ := false) (B.dict.at rfl) (B.zip.at rfl) (by simpa [tieT] using hmne) hok (by rw [tieT, List.length_map, hmm]; omega) (Ev.name (by rw [ht1]; rfl)) (Ev.name (by rw [ht2]; rfl))) .name (by decide) (fun _ _ => rfl) (fun _ _ => rfl)) ?_
  -- counts and threes
  have hlook : ∀ a b, a < b → b < n → lookD (tabKV (tieT (prsN n) (colF n x))) (pk a b) = some (.int (asI (colF n x) a b)) := fun a b h1 h2 => by
    have := kt_look (l := prsN n) (k := id) (v := fun p => (colF n x p.1 p.2 : Int)) (by rw [List.map_id]; exact prs_nodup hn) (p := (a, b)) (prs_mem.mpr ⟨h1, h2⟩)
    exact this
  refine RunR.seq (RunN.swap2 (φ := false) (Ev.tup (EvL.cons (φ := false) (Ev.fnF (F.n3.at rfl) (EvL.cons (φ := false) (Ev.name (d := .int (n : Nat)) rfl) (EvL.cons (φ := false) (Ev.name (d := tabD (tieT (prsN n) (colF n x))) rfl) .nil)) (F.f3 n (colF n x) (by omega) fun p _ => colF_lt _ _ _ _))
    (EvL.cons (φ := false) (Ev.fnF (F.n4.at rfl) (EvL.cons (φ := false) (Ev.name (d := .int (n : Nat)) rfl) (EvL.cons (φ := false) (Ev.name (d := tabD (tieT (prsN n) (colF n x))) rfl) .nil)) (F.f4 n _ (asI (colF n x)) (by omega) hlook)) .nil))) (by decide) (by decide) (fun _ _ => rfl) (fun env h => by cases env; cases h; rfl)) ?_
  exact hrest.weak (subCons rfl (subCons rfl (subCons rfl (subCons rfl (subCons rfl (subCons rfl subNil))))))
end
end Mine

namespace Mine
open Sem (wp)

/-- lists of threes, compared -/
theorem t3s_mem {n : Nat} {f : Nat → Nat → Int} : ∀ d ∈ threesL n f, ∃ a b c, d = t3 a b c := fun d m => by
  simp only [threesL, List.mem_flatMap, List.mem_map] at m
  obtain ⟨c, _, b, _, a, _, rfl⟩ := m
  exact ⟨a, b, c, rfl⟩
theorem t3s_keys : ∀ {l : List PyData}, (∀ d ∈ l, ∃ a b c, d = t3 a b c) → keyBs l = true
  | [], _ => rfl
  | d :: l, h => by
    obtain ⟨a, b, c, rfl⟩ := h d (List.mem_cons_self ..)
    simp only [keyBs, t3s_keys fun d m => h d (List.mem_cons_of_mem _ m), Bool.and_true]
    rfl
theorem t3s_depth : ∀ {l : List PyData}, (∀ d ∈ l, ∃ a b c, d = t3 a b c) → PyData.depthAll l ≤ 1
  | [], _ => by simp [PyData.depthAll]
  | d :: l, h => by
    obtain ⟨a, b, c, rfl⟩ := h d (List.mem_cons_self ..)
    have := t3s_depth fun d m => h d (List.mem_cons_of_mem _ m)
    simp only [PyData.depthAll, t3, PyData.depth]
    omega
theorem noDict_t3s {l : List PyData} (h : ∀ d ∈ l, ∃ a b c, d = t3 a b c) : noDict (.list l) = true := by
  simp only [noDict]; exact noDicts_of_keyBs (t3s_keys h)
theorem shaped_t3s {l : List PyData} (h : ∀ d ∈ l, ∃ a b c, d = t3 a b c) : SeqAt.shaped (.list l) = true := by
  have h1 := canLays_of_keyBs (t3s_keys h)
  have h2 := t3s_depth h
  unfold SeqAt.shaped
  simp only [PyData.canLay0, h1, PyData.depth, Bool.true_and]
  exact decide_eq_true (by omega)
theorem eqv_t3s {l : List PyData} (h : ∀ d ∈ l, ∃ a b c, d = t3 a b c) : PyData.eqv (.list l) (.list l) = true := by
  simp only [PyData.eqv]
  exact (eqvAll_keyB (t3s_keys h) (t3s_keys h)).mpr rfl

noncomputable def maxR (r : List Int) : Int := if r.getD 1 0 > r.getD 0 0 then r.getD 1 0 else r.getD 0 0

section
variable {g : G} {prog : Program} {w : World} {k j : Nat} {sc : Scope} {φ φ₁ φ₂ φ₃ : Bool} {ρ ρ' ρ₁ ρ₂ : Rho} {N N₂ : Addr → Prop} {env : Env} {e : Expr} {pos : Pos} {body rest : List Stmt}

theorem ltTr {a b : Int} {l r : Expr} (x : Ev g prog w k sc false ρ l (.int a)) (y : Ev g prog w k sc false ρ r (.int b)) (hm : behindInMarks .Lt r = false := by rfl) : Tr g prog w k sc ρ (.Compare l [.Lt] [r] pos) (decide (a < b)) := Tr.cmp x y Op2.ltI hm
theorem eqTr {a b : Int} {l r : Expr} (x : Ev g prog w k sc false ρ l (.int a)) (y : Ev g prog w k sc false ρ r (.int b)) (hm : behindInMarks .Eq r = false := by rfl) : Tr g prog w k sc ρ (.Compare l [.Eq] [r] pos) (a == b) := Tr.cmp x y Op2.eqI hm
theorem neTr {a b : Int} {l r : Expr} (x : Ev g prog w k sc false ρ l (.int a)) (y : Ev g prog w k sc false ρ r (.int b)) (hm : behindInMarks .NotEq r = false := by rfl) : Tr g prog w k sc ρ (.Compare l [.NotEq] [r] pos) (a != b) := Tr.cmp x y Op2.neI hm
/-- len of a list -/
theorem ev_len {np : Pos} {et : Expr} {ds : List PyData} (bl : BName g sc "len" (.builtin "len")) (x : Ev g prog w k sc φ₁ ρ et (.list ds)) (hsz : ds.length ≤ 1000) (he : ∀ env, starEach [et] env = [(false, eval et env)] := by intro _; rfl) :
    Ev g prog w k sc φ ρ (.Call (.Name "len" np) [et] [] pos) (.int ((ds.length : Nat) : Int)) :=
  Ev.fnB bl (EvL.cons (φ := φ₁) x .nil he) (Fn.len (by omega)) (by decide) he (fun _ => rfl)
/-- dict of a list of pairs -/
theorem ev_dict {np : Pos} {et : Expr} {t : Tab} (bd : BName g sc "dict" (.type "dict")) (x : Ev g prog w k sc φ₁ ρ et (pairsD t)) (ht : tabOk t) (hsz : t.length ≤ 1000) (he : ∀ env, starEach [et] env = [(false, eval et env)] := by intro _; rfl) :
    Ev g prog w k sc φ ρ (.Call (.Name "dict" np) [et] [] pos) (tabD t) :=
  Ev.fnT bd (EvL.cons (φ := φ₁) x .nil he) (Fn.dictPairs ht (Nat.le_trans hsz (by decide))) (by decide) he (fun _ => rfl)

set_option maxHeartbeats 1000000 in
theorem law1_mid {n : Nat} {f : Nat → Nat → Nat} {ns : List Int} (B : Bs g) (F : Fns1 g prog w k) (hn : n = 4 ∨ n = 5 ∨ n = 6) (hf : F1 n f)
    (hrest : RunR g prog w k (scp 9) false [("threes", .list (threesL n (asI f))), ("ties", tabD (tieT (prsN n) f)), ("twos", .list (twosD n)), ("many", .int (n : Nat)), ("script", .list (ns.map .int))] ((fBody (stm 9)).drop 16) (.bool true)) :
    RunR g prog w k (scp 9) false [("counts", rowsD (countsP n f)), ("threes", .list (threesL n (asI f))), ("ties", tabD (tieT (prsN n) f)), ("twos", .list (twosD n)), ("many", .int (n : Nat)), ("script", .list (ns.map .int))] ((fBody (stm 9)).drop 7) (.bool true) := by
  have hs : sizeLine = 2 ^ 24 := rfl
  obtain ⟨hm6, hm15⟩ := prs_small hn
  have htl := threes_len (n := n) (f := asI f) (by omega)
  have ht3 := t3s_mem (n := n) (f := asI f)
  have hrow := hf.row
  have hcl : (countsP n f).length = n := by
    unfold countsP
    rw [List.length_map]
    have : ∀ i, (turnsT f (prsN n) n i).length = n := fun i => by
      induction i with
      | zero => exact List.length_replicate
      | succ i ih =>
        have run : ∀ (l : List (Nat × Nat)) (T : List (List Tab)), (runL f l T).length = T.length := by
          intro l
          induction l with
          | nil => intro T; rfl
          | cons p l ih => intro T; exact (ih (stepTwo f T p)).trans (by simp [stepTwo, stepT])
        exact (run _ _).trans ih
    exact this 2
  have h8 := hf.a8; have hlen := hf.len; have htwo := hf.two
  have hap : ((countsP n f).map fun r => r.getD 0 0 * r.getD 1 0).sum = apartP n f := rfl
  generalize hC : countsP n f = C at hrow hcl hap
  generalize apartP n f = apart at h8 hlen hap
  have hr2 : ∀ r ∈ C, r.length = 2 := fun r m => by obtain ⟨a, b, rfl, _⟩ := hrow r m; rfl
  have nopl : ∀ i j : Int, (j = 6 ∨ j = 8) → Builtin.divisionGoesByPylong i j = false := fun i j h => PyProof.noPylong_small (by rcases h with rfl | rfl <;> decide)
  -- the rows
  refine RunR.seq (RunN.ifF (neNil (Ev.comp1 (φ := false) (l := C) (f := rowD) (p := fun r => (r.sum != 2 * ((n : Int) - 1)) || ((r.getD 0 0).fmod 2 != 0)) (out := rowD) (Src.list (Ev.name (d := rowsD C) rfl)) (fun r m => .name)
    (fun r m => Trs.one (Tr.or2 (neTr (ev_sum (B.sum.at rfl) (Ev.name (d := rowD r) rfl)) (Ev.bin (φ₁ := false) (φ₂ := false) Ev.int (Ev.bin (φ₁ := false) (φ₂ := false) (φ := false) (Ev.name (d := .int (n : Nat)) rfl) Ev.int (Op2.sub (φ := false))) (Op2.mul (mulSmall (by decide) (by decide)))))
      fun _ => neTr (Ev.bin (φ₁ := false) (φ₂ := false) (ev_item (l := 0) (Ev.name (d := rowD r) rfl) (Ev.int (φ := false)) (by rw [hr2 r m]; decide) (by rw [hr2 r m]; decide)) Ev.int (Op2.fmod (φ := false) (by decide))) Ev.int))
    (fun r m _ => Ev.name rfl) (by omega))
    (by
      rw [List.filter_eq_nil_iff.mpr fun r m => by
        obtain ⟨a, b, rfl, _, _, _, _, h1, h2⟩ := hrow r m
        simp [h1, h2]]
      rfl) (Ev.lst (φ := false) .nil))) ?_
  -- apart
  refine RunR.seq (RunN.assign (d := .int apart) (φ := false) (Ev.cong (ev_sum (φ₁ := false) (r := C.map fun r => r.getD 0 0 * r.getD 1 0) (B.sum.at rfl) (Ev.cong (Ev.comp0 (φ := false) (l := C) (f := rowD) (out := fun r => .int (r.getD 0 0 * r.getD 1 0)) (Src.list (Ev.name (d := rowsD C) rfl)) (fun r m => .name)
    (fun r m => Ev.bin (φ₁ := false) (φ₂ := false) (ev_item (l := 0) (Ev.name (d := rowD r) rfl) (Ev.int (φ := false)) (by rw [hr2 r m]; decide) (by rw [hr2 r m]; decide)) (ev_item (l := 1) (Ev.name (d := rowD r) rfl) (Ev.int (φ := false)) (by rw [hr2 r m]; decide) (by rw [hr2 r m]; decide))
      (Op2.mul (by obtain ⟨a, b, rfl, _⟩ := hrow r m; exact mulSmall (by simp; omega) (by simp; omega)))) (by omega)) (by simp [rowD]))) (congrArg PyData.int hap)) .name (by decide) (fun _ _ => rfl) (fun _ _ => rfl)) ?_
  -- Goodman
  refine RunR.seq (RunN.ifF (Tr.or2 (t := false) (u := false) (intNe (Ev.bin (φ₁ := false) (φ₂ := false) (φ := false) (Ev.name (d := .int apart) rfl) Ev.int (Op2.fmod (φ := false) (by decide))) (Ev.int (φ := false)) h8)
    fun _ => intNe (ev_len (φ := false) (B.len.at rfl) (Ev.name (d := .list (threesL n (asI f))) rfl) (by omega))
      (Ev.bin (φ₁ := false) (φ₂ := false) (φ := false) (Ev.bin (φ₁ := false) (φ₂ := false) (φ := false) (Ev.bin (φ₁ := false) (φ₂ := false) (φ := false) (Ev.bin (φ₁ := false) (φ₂ := false) (φ := false) (Ev.name (d := .int (n : Nat)) rfl) (Ev.bin (φ₁ := false) (φ₂ := false) (φ := false) (Ev.name (d := .int (n : Nat)) rfl) Ev.int (Op2.sub (φ := false))) (Op2.mul (mulSmall (by omega) (by omega))))
        (Ev.bin (φ₁ := false) (φ₂ := false) (φ := false) (Ev.name (d := .int (n : Nat)) rfl) Ev.int (Op2.sub (φ := false))) (Op2.mul (by rcases hn with rfl | rfl | rfl <;> exact mulSmall (by decide) (by decide)))) Ev.int (Op2.fdiv (φ := false) (by decide) (nopl _ _ (.inl rfl))))
        (Ev.bin (φ₁ := false) (φ₂ := false) (φ := false) (Ev.name (d := .int apart) rfl) Ev.int (Op2.fdiv (φ := false) (by decide) (nopl _ _ (.inr rfl)))) (Op2.sub (φ := false))) hlen)) ?_
  -- six
  refine RunR.seq (RunN.ifF (Tr.cong (Tr.and2 (t := ((n : Int) == 6)) (u := decide (((threesL n (asI f)).length : Int) < 2)) (eqTr (Ev.name (d := .int (n : Nat)) rfl) Ev.int) fun _ => ltTr (ev_len (φ₁ := false) (B.len.at rfl) (Ev.name (d := .list (threesL n (asI f))) rfl) (by omega)) Ev.int)
    (by
      cases q : ((n : Int) == 6) with
      | false => rfl
      | true =>
        have := htwo (by have := beq_iff_eq.mp q; omega)
        simp; omega))) ?_
  refine RunR.seq (RunN.ifF (neNil (Ev.comp1 (φ := false) (l := C) (f := rowD) (p := fun r => ((n : Int) == 6) && decide (maxR r < 6)) (out := rowD) (Src.list (Ev.name (d := rowsD C) rfl)) (fun r m => .name)
    (fun r m => Trs.one (Tr.and2 (eqTr (Ev.name (d := .int (n : Nat)) rfl) Ev.int) fun _ => ltTr (by
      obtain ⟨a, b, rfl, _⟩ := hrow r m
      exact Ev.fnB (B.max.at rfl) (EvL.cons (φ := false) (Ev.name (d := rowD [a, b]) rfl) .nil) Fn.maxL) Ev.int))
    (fun r m _ => Ev.name rfl) (by omega))
    (by
      rw [List.filter_eq_nil_iff.mpr fun r m => by
        obtain ⟨a, b, rfl, _, _, _, _, h1, h2⟩ := hrow r m
        cases q : ((n : Int) == 6) with
        | false => simp
        | true =>
          have hn6 := beq_iff_eq.mp q
          have h3 : 6 ≤ maxR [a, b] := by
            unfold maxR
            rw [Int.fmod_eq_emod_of_nonneg _ (by decide)] at h2
            simp only [List.getD_cons_zero, List.getD_cons_succ]
            split <;> omega
          simp; omega]
      rfl) (Ev.lst (φ := false) .nil))) ?_
  -- the ring of five
  have e : ∀ l : List Nat, (l.filter fun _ => true) = l := fun l => List.filter_eq_self.mpr fun _ _ => rfl
  have hrl : ((List.range 5).filter fun _ => true).flatMap (fun a => ((List.range a).filter fun _ => true).map fun b => PyData.tuple [pk b a, .int (ringI b a)]) = (kt (prsN 5) id fun p => ringI p.1 p.2).map fun p => PyData.tuple [p.1, .int p.2] := by
    simp only [e, kt, prsN, List.map_flatMap, List.map_map]
    rfl
  refine RunR.seq (RunN.assign (d := tabD (kt (prsN 5) id fun p => ringI p.1 p.2)) (φ := false) (ev_dict (φ₁ := false) (B.dict.at rfl) (Ev.comp (φ := false) (T := ["other", "one"]) (ds := (List.range 5).map fun i : Nat => PyData.int (i : Int)) (Src.eq rfl (Src.range (n := 5) (B.range.at rfl) (Ev.int (φ := false)) (by decide) (by decide)))
    (LoopOk.eq hrl (loop2 (xs := ["other"]) (xs' := ["one"]) (l := List.range 5) (f := fun i : Nat => PyData.int (i : Int)) (p := fun _ => true) (l' := fun a => List.range a) (f' := fun _ (i : Nat) => PyData.int (i : Int)) (p' := fun _ _ => true) (out := fun a b => PyData.tuple [pk b a, .int (ringI b a)])
      (fun a m => .name) (fun a m => Trs.nil) (fun a m => Src.eq (by rw [Int.toNat_natCast]; rfl) (Src.range (n := (a : Int)) (B.range.at rfl) (Ev.name (d := .int (a : Int)) rfl) (by omega) (by have := List.mem_range.mp m; omega)))
      (fun a m b m' => .name) (fun a m => rfl) (fun a m b m' => Trs.nil)
      (fun a m b m' _ => Ev.tup (EvL.cons (Ev.tup (EvL.cons (Ev.name rfl) (EvL.cons (Ev.name rfl) .nil))) (EvL.cons (Ev.fnT (B.int.at rfl) (EvL.cons (φ := false) (Ev.cmp (φ₁ := false) (φ₂ := false) (φ := false) (Ev.bin (φ₁ := false) (φ₂ := false) (φ := false) (Ev.name (d := .int (a : Int)) rfl) (Ev.name (d := .int (b : Int)) rfl) (Op2.sub (φ := false))) (Ev.tup (ds := [.int 1, .int 4]) (EvL.cons (φ := false) Ev.int (EvL.cons Ev.int .nil))) (Op2.inInts (ns := [1, 4]))) .nil) Fn.intB) .nil)))
      (by decide) (fun _ _ => rfl)))
    (by decide) (by decide) (by decide) (fun _ _ => rfl)) (kt_ok (by decide)) (by decide)) .name (by decide) (fun _ _ => rfl) (fun _ _ => rfl)) ?_
  refine RunR.seq (RunN.ifF (neNil (Ev.fnF (F.n4.at rfl) (EvL.cons (φ := false) Ev.int (EvL.cons (φ := false) (Ev.name (d := tabD (kt (prsN 5) id fun p => ringI p.1 p.2)) rfl) .nil)) (F.f4 5 _ ringI (by decide) fun a b h1 h2 => kt_look (l := prsN 5) (k := id) (v := fun p => ringI p.1 p.2) (by decide) (p := (a, b)) (prs_mem.mpr ⟨h1, h2⟩))) ring_none (Ev.lst (φ := false) .nil))) ?_
  -- turned about
  have hnd := prs_nodup hn
  have hnd' : ((prsN n).map id).Nodup := by rw [List.map_id]; exact hnd
  have hps : (prsN n).length ≤ 15 := hm15
  refine RunR.seq (RunN.assign (d := tabD (kt (prsN n) id fun p => 1 - asI f p.1 p.2)) (φ := false) (ev_dict (φ₁ := false) (B.dict.at rfl) (Ev.cong (Ev.comp0 (φ := false) (l := prsN n) (f := fun p => PyData.tuple [pk p.1 p.2, .int (f p.1 p.2 : Int)]) (xs := ["two", "colour"]) (out := fun p => PyData.tuple [pk p.1 p.2, .int (1 - asI f p.1 p.2)])
    (Src.eq (by simp [itemsD, tabKV, tieT]) (Src.items (kvs := tabKV (tieT (prsN n) f)) (Ev.name rfl) (tab_open tie_keys))) (fun p m => .tup (.cons .name (.cons .name .nil)))
    (fun p m => Ev.tup (EvL.cons (Ev.name rfl) (EvL.cons (Ev.bin (φ₁ := false) (φ₂ := false) Ev.int (Ev.name (d := .int (f p.1 p.2 : Int)) rfl) (Op2.sub (φ := false))) .nil))) (by omega)) (by simp [pairsD, kt])) (kt_ok hnd') (by simp only [kt, List.length_map]; omega)) .name (by decide) (fun _ _ => rfl) (fun _ _ => rfl)) ?_
  refine RunR.seq (RunN.ifF (Tr.cong (Tr.cmp (φ₁ := false) (φ₂ := false) (Ev.cong (Ev.fnF (F.n4.at rfl) (EvL.cons (φ := false) (Ev.name (d := .int (n : Nat)) rfl) (EvL.cons (φ := false) (Ev.name (d := tabD (kt (prsN n) id fun p => 1 - asI f p.1 p.2)) rfl) .nil)) (F.f4 n _ (fun a b => 1 - asI f a b) (by omega) fun a b h1 h2 => kt_look (l := prsN n) (k := id) (v := fun p => 1 - asI f p.1 p.2) hnd' (p := (a, b)) (prs_mem.mpr ⟨h1, h2⟩))) (by rw [turned_same]))
    (Ev.name (d := .list (threesL n (asI f))) rfl) (Op2.neD (noDict_t3s ht3) (noDict_t3s ht3) (shaped_t3s ht3) (shaped_t3s ht3))) (by rw [eqv_t3s ht3]; rfl))) ?_
  exact hrest.weak (subCons rfl (subCons rfl (subCons rfl (subCons rfl (subCons rfl subNil)))))
end
end Mine

namespace Mine
open Sem (wp)

theorem sortI_two (x y : Int) : sortI [x, y] = [min x y, max x y] := by
  refine (sortI_uniq ?_ ?_).symm
  · by_cases h : x ≤ y
    · rw [Int.min_eq_left h, Int.max_eq_right h]
    · rw [Int.min_eq_right (by omega), Int.max_eq_left (by omega)]; exact List.Perm.swap _ _ _
  · simp only [List.pairwise_cons, List.mem_singleton, forall_eq, List.not_mem_nil, false_implies, implies_true, List.Pairwise.nil, and_true]
    omega
theorem rot_sorted (n : Nat) (p : Nat × Nat) : PyData.tuple ((sortI [((((p.1 + 1) % n : Nat)) : Int), ((((p.2 + 1) % n : Nat)) : Int)]).map .int) = pk (rot n p).1 (rot n p).2 := by
  have e1 : ∀ x y : Nat, min (x : Int) (y : Int) = ((min x y : Nat) : Int) := fun x y => by omega
  have e2 : ∀ x y : Nat, max (x : Int) (y : Int) = ((max x y : Nat) : Int) := fun x y => by omega
  rw [sortI_two, e1, e2]
  rfl
theorem rot_nodup {n : Nat} (h : n = 4 ∨ n = 5 ∨ n = 6) : ((prsN n).map (rot n)).Nodup := by rcases h with rfl | rfl | rfl <;> decide
theorem rot_back {n : Nat} (h : n = 4 ∨ n = 5 ∨ n = 6) : ∀ q ∈ prsN n, rot n (unrot n q) = q ∧ unrot n q ∈ prsN n := by rcases h with rfl | rfl | rfl <;> decide

/-- the hashes of the pairs are apart -/
noncomputable def hashP (p : Nat × Nat) : Int := reduceHash (Builtin.Tuple.tupleHashOf [hashInt (p.1 : Int), hashInt (p.2 : Int)])
theorem hash_pk (w : World) (a b : Nat) : hashD w (pk a b) = hashP (a, b) := by simp [pk, hashD, hashDs, hashP]
theorem tie_hash (w : World) (f : Nat → Nat → Nat) : ∀ l : List (Nat × Nat), ((tieT l f).map fun p => hashD w p.1) = l.map hashP
  | [] => rfl
  | (a, b) :: l => by
    have ih := tie_hash w f l
    simp only [tieT, List.map_cons] at ih ⊢
    rw [hash_pk, ih]
theorem hash_apart {n : Nat} (h : n = 4 ∨ n = 5 ∨ n = 6) : ((prsN n).map hashP).Nodup := by rcases h with rfl | rfl | rfl <;> decide +kernel

section
variable {g : G} {prog : Program} {w : World} {k j : Nat} {sc : Scope} {φ φ₁ φ₂ φ₃ : Bool} {ρ ρ' ρ₁ ρ₂ : Rho} {N N₂ : Addr → Prop} {env : Env} {e : Expr} {pos : Pos} {body rest : List Stmt}

theorem RunR.of_two {st₁ st₂ : Stmt} {d : PyData} (h : ∀ (A : Around) (env : Env) (N : Addr → Prop) (s : Shared) (Q : Flow → Shared → Prop) (E : Value → Shared → Prop), env.scope = sc → Room A k → St g w N env s.heap ρ →
    (∀ h' tk, Mv g (OwnC env) s.heap h' → St g w N env h' ρ' → Q .next { s with heap := h', toks := tk }) → wpAny (model prog w) A (exec st₁ env) (fun f s' => f = .next ∧ wpAny (model prog w) A (exec st₂ env) Q E s') E s)
    (y : RunR g prog w k sc φ ρ' rest d) : RunR g prog w k sc φ ρ (st₁ :: st₂ :: rest) d := by
  intro A env N s Q E hs hr z hQ
  rw [execs_cons]
  refine wpAny_bind (wpAny_mono (h A env N s (fun f s' => f = .next ∧ wpAny (model prog w) A (execs rest env) Q E s') E hs hr z fun h₁ t₁ m₁ z₁ => ⟨rfl, y A env N _ Q E hs hr z₁ fun h₂ t₂ v m₂ d₂ => hQ h₂ t₂ v (m₁.trans m₂) (d₂.weaken fun a _ n => n.elim .inl fun q => .inr ⟨q.1, m₁.live a q.2⟩)⟩) (fun f s' hf => ?_) fun _ _ e => e)
  obtain ⟨rfl, hf⟩ := hf
  show wpAny _ A (execs (st₂ :: rest) env) Q E s'
  rw [execs_cons]
  refine wpAny_bind (wpAny_mono hf (fun f s' hf => ?_) fun _ _ e => e)
  obtain ⟨rfl, hf⟩ := hf
  exact hf

/-- changed = dict(ties); changed[one, other] = 1 - ties[one, other] -/
theorem changed_run {n : Nat} {f : Nat → Nat → Nat} {p : Nat × Nat} {ρ : Rho} (B : Bs g) (hn : n = 4 ∨ n = 5 ∨ n = 6) (hp : p ∈ prsN n)
    (hrest : RunR g prog w k (scp 9) false (("changed", tabD (kt (prsN n) id fun q => updI (asI f) p (1 - asI f p.1 p.2) q.1 q.2)) :: ("other", .int (p.2 : Nat)) :: ("one", .int (p.1 : Nat)) :: ("ties", tabD (tieT (prsN n) f)) :: ρ) ((fBody (stm 9)).drop 19) (.bool true)) :
    RunR g prog w k (scp 9) false (("other", .int (p.2 : Nat)) :: ("one", .int (p.1 : Nat)) :: ("ties", tabD (tieT (prsN n) f)) :: ρ) ((fBody (stm 9)).drop 17) (.bool true) := by
  have hs24 : sizeLine = 2 ^ 24 := rfl
  obtain ⟨hm6, hm15⟩ := prs_small hn
  have hnd := prs_nodup hn
  have hnd' : ((prsN n).map id).Nodup := by rw [List.map_id]; exact hnd
  have hne : tieT (prsN n) f ≠ [] := by intro q; have := congrArg List.length q; simp [tieT] at this; rw [this] at hm6; simp at hm6
  have htl : (tieT (prsN n) f).length = (prsN n).length := by simp [tieT]
  have hok : tabOk (tieT (prsN n) f) := by rw [kt_tie]; exact kt_ok hnd'
  have hhash : ((tieT (prsN n) f).map fun p => hashD w p.1).Nodup := by rw [tie_hash]; exact hash_apart hn
  have hlk : lookD (tabKV (tieT (prsN n) f)) (pk p.1 p.2) = some (.int (asI f p.1 p.2)) := kt_look (l := prsN n) (k := id) (v := fun p => (f p.1 p.2 : Int)) hnd' hp
  refine RunR.of_two (fun A env N s Q E hs hr z hQ => ?_) hrest
  refine assign_new (D := tabD (tieT (prsN n) f)) (Ev.fnT (B.dict.at rfl) (EvL.cons (φ := false) (Ev.name (d := tabD (tieT (prsN n) f)) rfl) .nil) (Fn.dictCopy hok hne (by omega) hhash)) (fun M h v x => x.dictRef) (by decide) (fun _ _ => rfl) (fun _ _ => rfl) hs hr z fun h₁ a m₁ d₁ => ?_
  obtain ⟨na, es, c, hat⟩ := Den.dictAt d₁ (tab_open hok.1)
  have ha : s.heap.get? a = none := by
    cases e : s.heap.get? a with
    | none => rfl
    | some o => exact absurd (.inr (by rw [e]; rfl)) na
  refine ⟨fun b => b = a, fun b q => ⟨q ▸ ha, by rw [q, hat.1]; rfl⟩, fun h₂ t₂ m₂ m₁₂ z₂ => ⟨rfl, ?_⟩⟩
  have ho : OffOwn g env a := ⟨fun o => z.cx.fresh ha (z.ok.own a o).1, z.cx.baseFresh ha, fun t => z.cx.fresh ha (z.cx.tabs a t)⟩
  have f₂ : FD w h₂ a (tieT (prsN n) f) := (FD.of hat).mv m₁₂ ⟨ho.2.2, fun o => ho.1 o.own⟩
  obtain ⟨es₂, c₂, hat₂⟩ := f₂.at (fun b => N b ∨ b = a)
  refine set_dict (kd := pk p.1 p.2) (dv := .int (1 - asI f p.1 p.2)) (d := a) (s := { s with heap := h₂, toks := t₂ }) (φ := false) (φ₁ := false) (φ₂ := false)
    (Ev.bin (φ₁ := false) (φ₂ := false) Ev.int (ev_pair (f := asI f) (φ₁ := false) (Ev.name (d := tabD (tieT (prsN n) f)) rfl) (Ev.name (d := .int (p.1 : Nat)) rfl) (Ev.name (d := .int (p.2 : Nat)) rfl) hlk) (Op2.sub (φ := false)))
    (Ev.name rfl) (Ev.tup (EvL.cons (Ev.name rfl) (EvL.cons (Ev.name rfl) .nil))) (pk_ok _ _) hs hr z₂ (.inr rfl) ho hat₂ (by simp only [tabKV, List.length_map]; omega) (fun _ => rfl) fun h₃ t₃ es₃ c₃ m₃ z₃ hat₃ => ?_
  rw [kt_tie, kt_put hnd hp] at hat₃
  refine hQ h₃ t₃ (m₂.fresh m₃ fun b q => .inr (q ▸ ha)) ?_
  refine St.close z₃ (fun b n => .inl n) z.cx.mods z.cx.tabs (fun b o => (z.ok.own b o).1) ?_
  obtain ⟨es₄, c₄, hat₄⟩ := (FD.of hat₃).at N
  exact hat₄.den (z.cx.fresh ha)

set_option maxHeartbeats 1000000 in
theorem law1_tail {n : Nat} {f : Nat → Nat → Nat} {ns : List Int} (B : Bs g) (F : Fns1 g prog w k) (hn : n = 4 ∨ n = 5 ∨ n = 6) (hf : F1 n f) :
    RunR g prog w k (scp 9) false [("threes", .list (threesL n (asI f))), ("ties", tabD (tieT (prsN n) f)), ("twos", .list (twosD n)), ("many", .int (n : Nat)), ("script", .list (ns.map .int))] ((fBody (stm 9)).drop 16) (.bool true) := by
  have hs : sizeLine = 2 ^ 24 := rfl
  obtain ⟨hm6, hm15⟩ := prs_small hn
  have hnd := prs_nodup hn
  have hnd' : ((prsN n).map id).Nodup := by rw [List.map_id]; exact hnd
  have htl := threes_len (n := n) (f := asI f) (by omega)
  -- the two
  have hi0 := Int.fmod_nonneg_of_pos ns.sum (show (0 : Int) < ((prsN n).length : Nat) by omega)
  have hi1 := Int.fmod_lt_of_pos ns.sum (show (0 : Int) < ((prsN n).length : Nat) by omega)
  generalize hi : ns.sum.fmod ((prsN n).length : Nat) = i at hi0 hi1
  obtain ⟨p, hip⟩ : ∃ p, (prsN n)[i.toNat]? = some p := ⟨(prsN n)[i.toNat]'(by omega), by simp⟩
  have hp : p ∈ prsN n := List.mem_of_getElem? hip
  obtain ⟨hp1, hp2⟩ := prs_mem.mp hp
  have hitem : (twosD n)[i.toNat]? = some (pk p.1 p.2) := by rw [twosD, List.getElem?_map, hip]; rfl
  refine RunR.seq (ρ₁ := ("other", .int (p.2 : Nat)) :: ("one", .int (p.1 : Nat)) :: _) (RunN.assign (d := pk p.1 p.2) (xs := ["one", "other"]) (φ := false) (Ev.sub (φ₁ := false) (φ₂ := false) (Ev.name (d := .list (twosD n)) rfl) (Ev.cong (Ev.bin (φ₁ := false) (φ₂ := false) (φ := false) (Ev.fnB (B.sum.at rfl) (EvL.cons (φ := false) (Ev.name (d := .list (ns.map .int)) rfl) .nil) Fn.sum) (ev_twos (φ := false) (φ₁ := false) (B.len.at rfl) hn (Ev.name rfl)) (Op2.fmod (φ := false) (by omega))) (congrArg PyData.int hi)) (Op2.item hi0 (by omega) hitem))
    (.tup (.cons .name (.cons .name .nil))) (by decide) (fun env h => by cases env; cases h; rfl) (fun env h => by cases env; cases h; rfl)) ?_
  refine RunR.weak (ρ := ("other", .int (p.2 : Nat)) :: ("one", .int (p.1 : Nat)) :: ("ties", tabD (tieT (prsN n) f)) :: [("threes", .list (threesL n (asI f))), ("many", .int (n : Nat))]) ?_ (subCons rfl (subCons rfl (subCons rfl (subCons rfl (subCons rfl subNil)))))
  refine changed_run B hn hp ?_
  -- both
  have hlook : ∀ a b, a < b → b < n → lookD (tabKV (tieT (prsN n) f)) (pk a b) = some (.int (asI f a b)) := fun a b h1 h2 =>
    kt_look (l := prsN n) (k := id) (v := fun p => (f p.1 p.2 : Int)) hnd' (p := (a, b)) (prs_mem.mpr ⟨h1, h2⟩)
  have hlist2 : ∀ q : Int × Int, PyData.list [.int q.1, .int q.2] = rowD [q.1, q.2] := fun q => rfl
  have hfl : ((List.range n).filter fun q => !(q == p.1 || q == p.2)).map (fun q => PyData.list [.int (asI f (min p.1 q) (max p.1 q)), .int (asI f (min p.2 q) (max p.2 q))]) = (bothP n f p).map fun q => PyData.list [.int q.1, .int q.2] := by
    rw [bothP, List.map_map]; rfl
  have hbl : (bothP n f p).length ≤ 8 := by
    rw [bothP, List.length_map]
    have := List.length_filter_le (fun q => !(q == p.1 || q == p.2)) (List.range n)
    rw [List.length_range] at this; omega
  have hmin : ∀ {sc : Scope} {ρ : Rho} {x y : Nat} {ex ey : Expr} {np pos : Pos} (b : BName g sc "min" (.builtin "min")) (xx : Ev g prog w k sc false ρ ex (.int (x : Nat))) (xy : Ev g prog w k sc false ρ ey (.int (y : Nat)))
      (h1 : ∀ env, starEach [ex, ey] env = (false, eval ex env) :: starEach [ey] env) (h2 : ∀ env, starEach [ey] env = (false, eval ey env) :: starEach [] env), Ev g prog w k sc false ρ (.Call (.Name "min" np) [ex, ey] [] pos) (.int ((min x y : Nat) : Int)) := fun {sc ρ x y ex ey np pos} b xx xy h1 h2 =>
    Ev.cong (Ev.fnB b (EvL.cons (φ := false) xx (EvL.cons xy .nil h2) h1) Fn.min2 (by decide) h1 (fun env => by rw [h2]; rfl)) (congrArg PyData.int (by split <;> omega))
  have hmax : ∀ {sc : Scope} {ρ : Rho} {x y : Nat} {ex ey : Expr} {np pos : Pos} (b : BName g sc "max" (.builtin "max")) (xx : Ev g prog w k sc false ρ ex (.int (x : Nat))) (xy : Ev g prog w k sc false ρ ey (.int (y : Nat)))
      (h1 : ∀ env, starEach [ex, ey] env = (false, eval ex env) :: starEach [ey] env) (h2 : ∀ env, starEach [ey] env = (false, eval ey env) :: starEach [] env), Ev g prog w k sc false ρ (.Call (.Name "max" np) [ex, ey] [] pos) (.int ((max x y : Nat) : Int)) := fun {sc ρ x y ex ey np pos} b xx xy h1 h2 =>
    Ev.cong (Ev.fnB b (EvL.cons (φ := false) xx (EvL.cons xy .nil h2) h1) Fn.max2 (by decide) h1 (fun env => by rw [h2]; rfl)) (congrArg PyData.int (by split <;> omega))
  refine RunR.seq (RunN.assignComp (φ := false) (out := (bothP n f p).map fun q => PyData.list [.int q.1, .int q.2]) (Src.eq (ds' := (List.range n).map fun i : Nat => PyData.int (i : Int)) (by rw [Int.toNat_natCast]; rfl) (Src.range (n := (n : Int)) (B.range.at rfl) (Ev.name (d := .int (n : Nat)) rfl) (by omega) (by omega)))
    (LoopOk.eq hfl (loop_last (l := List.range n) (f := fun i : Nat => PyData.int (i : Int)) (p := fun q => !(q == p.1 || q == p.2)) (xs := ["place"]) (T := ["place"]) (out := fun q => PyData.list [.int (asI f (min p.1 q) (max p.1 q)), .int (asI f (min p.2 q) (max p.2 q))]) rfl rfl (fun q m => .name) (ownNames_none (T := ["place"]) (by decide)) (by decide) (by decide)
      (fun q m => Trs.one (Tr.cong (Tr.cmp (φ₁ := false) (φ₂ := false) (Ev.name (d := .int (q : Nat)) rfl) (Ev.tup (ds := [.int (p.1 : Nat), .int (p.2 : Nat)]) (EvL.cons (φ := false) (Ev.name rfl) (EvL.cons (Ev.name rfl) .nil))) (Op2.notInInts (ns := [((p.1 : Nat) : Int), ((p.2 : Nat) : Int)]))) (by
        have e : ∀ x : Nat, (((x : Nat) : Int) == ((q : Nat) : Int)) = (q == x) := fun x => by rw [Bool.eq_iff_iff, beq_iff_eq, beq_iff_eq]; omega
        simp only [List.any_cons, List.any_nil, Bool.or_false, e])))
      (fun q m hq => by
        have hqn := List.mem_range.mp m
        have hq1 : q ≠ p.1 ∧ q ≠ p.2 := by simpa using hq
        exact Ev.lst (EvL.cons (φ := false) (ev_pair (φ₁ := false) (Ev.name (d := tabD (tieT (prsN n) f)) rfl) (hmin (B.min.at rfl) (Ev.name rfl) (Ev.name rfl) (fun _ => rfl) (fun _ => rfl)) (hmax (B.max.at rfl) (Ev.name rfl) (Ev.name rfl) (fun _ => rfl) (fun _ => rfl)) (hlook _ _ (by omega) (by omega)))
          (EvL.cons (ev_pair (φ₁ := false) (Ev.name (d := tabD (tieT (prsN n) f)) rfl) (hmin (B.min.at rfl) (Ev.name rfl) (Ev.name rfl) (fun _ => rfl) (fun _ => rfl)) (hmax (B.max.at rfl) (Ev.name rfl) (Ev.name rfl) (fun _ => rfl) (fun _ => rfl)) (hlook _ _ (by omega) (by omega))) .nil)))))
    (by rw [List.length_map]; omega) (by decide) (by decide) (by decide) (fun _ _ => rfl) (fun env h => by cases env; cases h; rfl)) ?_
  have hv := hlook p.1 p.2 hp1 hp2
  have hS : ∀ P : Int × Int → Bool, (((bothP n f p).filter P).map fun _ => PyData.int 1).length = ((bothP n f p).filter P).length := fun P => by rw [List.length_map]
  have hSl : ∀ P : Int × Int → Bool, ((bothP n f p).filter P).length ≤ 8 := fun P => Nat.le_trans (List.length_filter_le _ _) hbl
  -- same and new
  refine RunR.seq (RunN.assign (d := .int ((((bothP n f p).filter fun q => q.1 == q.2 && q.2 == asI f p.1 p.2).length : Nat) : Int)) (φ := false) (Ev.cong (ev_len (φ₁ := false) (B.len.at rfl) (Ev.comp1 (φ := false) (l := bothP n f p) (f := fun q => PyData.list [.int q.1, .int q.2]) (xs := ["left", "right"]) (p := fun q => q.1 == q.2 && q.2 == asI f p.1 p.2) (out := fun _ => PyData.int 1) (Src.list (Ev.name rfl)) (fun q m => .tupL (.cons .name (.cons .name .nil)))
    (fun q m => Trs.one (Tr.cong (Tr.chain (φ := false) (i := q.1) (cs := [(.Eq, q.2), (.Eq, asI f p.1 p.2)]) (Ev.name rfl) (.eq (Ev.name rfl) (.eq (ev_pair (f := asI f) (φ₁ := false) (Ev.name (d := tabD (tieT (prsN n) f)) rfl) (Ev.name (d := .int (p.1 : Nat)) rfl) (Ev.name (d := .int (p.2 : Nat)) rfl) hv) .nil))) (by simp [chainI, cmpI])))
    (fun q m _ => Ev.int) (by omega)) (by rw [hS]; have := hSl fun q => q.1 == q.2 && q.2 == asI f p.1 p.2; omega)) (by rw [hS])) .name (by decide) (fun _ _ => rfl) (fun _ _ => rfl)) ?_
  refine RunR.seq (RunN.assign (d := .int ((((bothP n f p).filter fun q => q.1 == q.2 && q.2 != asI f p.1 p.2).length : Nat) : Int)) (φ := false) (Ev.cong (ev_len (φ₁ := false) (B.len.at rfl) (Ev.comp1 (φ := false) (l := bothP n f p) (f := fun q => PyData.list [.int q.1, .int q.2]) (xs := ["left", "right"]) (p := fun q => q.1 == q.2 && q.2 != asI f p.1 p.2) (out := fun _ => PyData.int 1) (Src.list (Ev.name rfl)) (fun q m => .tupL (.cons .name (.cons .name .nil)))
    (fun q m => Trs.one (Tr.cong (Tr.chain (φ := false) (i := q.1) (cs := [(.Eq, q.2), (.NotEq, asI f p.1 p.2)]) (Ev.name rfl) (.eq (Ev.name rfl) (.ne (ev_pair (f := asI f) (φ₁ := false) (Ev.name (d := tabD (tieT (prsN n) f)) rfl) (Ev.name (d := .int (p.1 : Nat)) rfl) (Ev.name (d := .int (p.2 : Nat)) rfl) hv) .nil))) (by simp [chainI, cmpI])))
    (fun q m _ => Ev.int) (by omega)) (by rw [hS]; have := hSl fun q => q.1 == q.2 && q.2 != asI f p.1 p.2; omega)) (by rw [hS])) .name (by decide) (fun _ _ => rfl) (fun _ _ => rfl)) ?_
  -- one two changed
  have hcl := threes_len (n := n) (f := updI (asI f) p (1 - asI f p.1 p.2)) (by omega)
  refine RunR.seq (RunN.ifF (intNe (ev_len (φ := false) (φ₁ := false) (B.len.at rfl) (Ev.fnF (F.n4.at rfl) (EvL.cons (φ := false) (Ev.name (d := .int (n : Nat)) rfl) (EvL.cons (φ := false) (Ev.name (d := tabD (kt (prsN n) id fun q => updI (asI f) p (1 - asI f p.1 p.2) q.1 q.2)) rfl) .nil)) (F.f4 n _ (updI (asI f) p (1 - asI f p.1 p.2)) (by omega) fun a b h1 h2 => kt_look (l := prsN n) (k := id) (v := fun q => updI (asI f) p (1 - asI f p.1 p.2) q.1 q.2) hnd' (p := (a, b)) (prs_mem.mpr ⟨h1, h2⟩))) (by omega))
    (Ev.bin (φ₁ := false) (φ₂ := false) (φ := false) (Ev.bin (φ₁ := false) (φ₂ := false) (φ := false) (ev_len (φ₁ := false) (B.len.at rfl) (Ev.name (d := .list (threesL n (asI f))) rfl) (by omega)) (Ev.name (d := .int ((((bothP n f p).filter fun q => q.1 == q.2 && q.2 == asI f p.1 p.2).length : Nat) : Int)) rfl) (Op2.sub (φ := false))) (Ev.name (d := .int ((((bothP n f p).filter fun q => q.1 == q.2 && q.2 != asI f p.1 p.2).length : Nat) : Int)) rfl) (Op2.add (φ := false))) (hf.chg p hp))) ?_
  -- moved
  have hmod : ∀ x : Nat, ((x : Int) + 1).fmod (n : Nat) = (((x + 1) % n : Nat) : Int) := fun x => by rw [Int.fmod_eq_emod_of_nonneg _ (by omega)]; push_cast; rfl
  have evmod : ∀ {sc : Scope} {ρ : Rho} {x : Nat} {ex em : Expr} {n1 : Nat} {p1 p2 p3 : Pos} (xx : Ev g prog w k sc false ρ ex (.int (x : Nat))) (xm : Ev g prog w k sc false ρ em (.int (n : Nat))), Ev g prog w k sc false ρ (.BinOp (.BinOp ex .Add (.Constant (.int 1) n1 p1) p2) .Mod em p3) (.int (((x + 1) % n : Nat) : Int)) := fun {sc ρ x ex em n1 p1 p2 p3} xx xm =>
    Ev.cong (Ev.bin (φ₁ := false) (φ₂ := false) (Ev.bin (φ₁ := false) (φ₂ := false) (φ := false) xx Ev.int (Op2.add (φ := false))) xm (Op2.fmod (φ := false) (by omega))) (congrArg PyData.int (hmod x))
  refine RunR.seq (RunN.assign (d := tabD (kt (prsN n) (rot n) fun p => asI f p.1 p.2)) (φ := false) (ev_dict (φ₁ := false) (B.dict.at rfl) (Ev.cong (Ev.comp0 (φ := false) (l := prsN n) (f := fun p => PyData.tuple [pk p.1 p.2, .int (f p.1 p.2 : Int)]) (xs := ["a", "b", "colour"]) (out := fun p => PyData.tuple [pk (rot n p).1 (rot n p).2, .int (asI f p.1 p.2)])
    (Src.eq (by simp [itemsD, tabKV, tieT]) (Src.items (kvs := tabKV (tieT (prsN n) f)) (Ev.name rfl) (tab_open tie_keys))) (fun p m => .tup (.cons (.tup (.cons .name (.cons .name .nil))) (.cons .name .nil)))
    (fun p m => Ev.tup (EvL.cons (Ev.cong (Ev.fnT (B.tuple.at rfl) (EvL.cons (φ := false) (Ev.fnB (B.sorted.at rfl) (EvL.cons (φ := false) (Ev.lst (ds := [(((p.1 + 1) % n : Nat) : Int), (((p.2 + 1) % n : Nat) : Int)].map .int) (EvL.cons (φ := false) (evmod (Ev.name (d := .int (p.1 : Nat)) rfl) (Ev.name (d := .int (n : Nat)) rfl)) (EvL.cons (evmod (Ev.name (d := .int (p.2 : Nat)) rfl) (Ev.name (d := .int (n : Nat)) rfl)) .nil))) .nil) (Fn.sortedL (by simp))) .nil) (Fn.tupleL (φ := false) (by rw [List.length_map, sortI_two]; show 2 ≤ sizeLine; decide) (fun q => by cases q))) (rot_sorted n p)) (EvL.cons (Ev.name (d := .int (f p.1 p.2 : Int)) rfl) .nil))) (by omega)) (by simp [pairsD, kt])) (kt_ok (rot_nodup hn)) (by simp only [kt, List.length_map]; omega)) .name (by decide) (fun _ _ => rfl) (fun _ _ => rfl)) ?_
  have hml := threes_len (n := n) (f := movI n f) (by omega)
  refine RunR.ret (Ev.cong (Ev.cmp (φ₁ := false) (φ₂ := false) (φ := false) (ev_len (φ := false) (φ₁ := false) (B.len.at rfl) (Ev.fnF (F.n4.at rfl) (EvL.cons (φ := false) (Ev.name (d := .int (n : Nat)) rfl) (EvL.cons (φ := false) (Ev.name (d := tabD (kt (prsN n) (rot n) fun p => asI f p.1 p.2)) rfl) .nil)) (F.f4 n _ (movI n f) (by omega) fun a b h1 h2 => by
      obtain ⟨q1, q2⟩ := rot_back hn (a, b) (prs_mem.mpr ⟨h1, h2⟩)
      have := kt_look (l := prsN n) (k := rot n) (v := fun p => asI f p.1 p.2) (rot_nodup hn) q2
      rw [q1] at this
      exact this)) (by omega)) (ev_len (φ₁ := false) (B.len.at rfl) (Ev.name (d := .list (threesL n (asI f))) rfl) (by omega)) Op2.eqI) (by rw [hf.mov]; simp))
end
end Mine

namespace Mine

/-! the counts, told -/
theorem totT_bump (t : Tab) (k : PyData) : totT (bumpT t k) = totT t + 1 := by
  induction t with
  | nil => rfl
  | cons p r ih =>
    obtain ⟨k', n⟩ := p
    unfold bumpT
    unfold totT at ih ⊢
    split
    · simp only [List.map_cons, List.sum_cons]; omega
    · simp only [List.map_cons, List.sum_cons, ih]; omega
noncomputable def totR (T : List (List Tab)) : List (List Int) := T.map fun r => r.map totT
noncomputable def stepI (C : List (List Int)) (p c : Nat) : List (List Int) := C.set p ((C.getD p []).set c ((C.getD p []).getD c 0 + 1))
theorem map_getD' {α β : Type} (F : α → β) (d : α) : ∀ (l : List α) (i : Nat), (l.map F).getD i (F d) = F (l.getD i d)
  | [], i => by simp
  | a :: l, 0 => by simp
  | a :: l, i + 1 => by simpa using map_getD' F d l i
theorem tot_step (T : List (List Tab)) (p c q : Nat) : totR (stepT T p c q) = stepI (totR T) p c := by
  unfold totR stepT stepI
  rw [List.map_set, List.map_set, totT_bump]
  have h1 : (T.map fun r => r.map totT).getD p [] = (T.getD p []).map totT := map_getD' (fun r : List Tab => r.map totT) [] T p
  have h2 : ((T.getD p []).map totT).getD c 0 = totT ((T.getD p []).getD c []) := map_getD' totT [] (T.getD p []) c
  rw [h1, h2]
noncomputable def runI (f : Nat → Nat → Nat) (l : List (Nat × Nat)) (C : List (List Int)) : List (List Int) := l.foldl (fun C p => stepI (stepI C p.1 (f p.1 p.2)) p.2 (f p.1 p.2)) C
theorem tot_run (f : Nat → Nat → Nat) : ∀ (l : List (Nat × Nat)) (T : List (List Tab)), totR (runL f l T) = runI f l (totR T)
  | [], T => rfl
  | p :: l, T => by
    have := tot_run f l (stepTwo f T p)
    unfold stepTwo at this
    rw [tot_step, tot_step] at this
    exact this
theorem counts_eq (n : Nat) (f : Nat → Nat → Nat) : countsP n f = runI f (prsN n) (runI f (prsN n) (List.replicate n [0, 0])) := by
  have h0 : totR (turnsT f (prsN n) n 0) = List.replicate n [0, 0] := by
    unfold totR turnsT; rw [List.map_replicate]; rfl
  show totR (turnsT f (prsN n) n 2) = _
  rw [← h0, ← tot_run, ← tot_run]; rfl

noncomputable def ent (C : List (List Int)) (p c : Nat) : Int := (C.getD p []).getD c 0
noncomputable def Wide (n : Nat) (C : List (List Int)) : Prop := C.length = n ∧ ∀ r ∈ C, r.length = 2
noncomputable def i01 (P : Prop) [Decidable P] : Int := if P then 1 else 0
theorem getD_set {α : Type} (l : List α) (i j : Nat) (x d : α) (h : i < l.length) : (l.set i x).getD j d = if i = j then x else l.getD j d := by
  by_cases q : i = j
  · subst q; rw [if_pos rfl, List.getD_eq_getElem?_getD, List.getElem?_set_self h]; rfl
  · rw [if_neg q, List.getD_eq_getElem?_getD, List.getElem?_set_ne q, List.getD_eq_getElem?_getD]
theorem stepI_wide {n p c : Nat} {C : List (List Int)} (h : Wide n C) (hp : p < n) : Wide n (stepI C p c) := by
  refine ⟨by rw [stepI, List.length_set]; exact h.1, fun r m => ?_⟩
  rcases List.mem_or_eq_of_mem_set m with m | rfl
  · exact h.2 r m
  · rw [List.length_set]; exact h.2 _ (getD_mem (by rw [h.1]; exact hp))
theorem ent_step {n p c p' c' : Nat} {C : List (List Int)} (h : Wide n C) (hp : p < n) (hc : c < 2) : ent (stepI C p c) p' c' = ent C p' c' + i01 (p = p' ∧ c = c') := by
  have hl := h.2 _ (getD_mem (l := C) (d := []) (by rw [h.1]; exact hp))
  unfold ent stepI i01
  rw [getD_set _ _ _ _ _ (by rw [h.1]; exact hp)]
  by_cases q : p = p'
  · subst q
    rw [if_pos rfl, getD_set _ _ _ _ _ (by rw [hl]; exact hc)]
    by_cases q2 : c = c'
    · subst q2; simp
    · simp [q2]
  · rw [if_neg q]; simp [q]
noncomputable def deg (f : Nat → Nat → Nat) (l : List (Nat × Nat)) (p c : Nat) : Int := (l.map fun q => i01 (q.1 = p ∧ f q.1 q.2 = c) + i01 (q.2 = p ∧ f q.1 q.2 = c)).sum
theorem runI_ent {n : Nat} {f : Nat → Nat → Nat} : ∀ {l : List (Nat × Nat)} {C : List (List Int)}, Wide n C → (∀ p ∈ l, p.1 < n ∧ p.2 < n) → (∀ p ∈ l, f p.1 p.2 < 2) → Wide n (runI f l C) ∧ ∀ p c, ent (runI f l C) p c = ent C p c + deg f l p c
  | [], C, h, _, _ => ⟨h, fun p c => by simp [runI, deg]⟩
  | q :: l, C, h, hl, hf => by
    obtain ⟨h1, h2⟩ := hl q (List.mem_cons_self ..)
    have h3 := hf q (List.mem_cons_self ..)
    have w1 := stepI_wide (c := f q.1 q.2) h h1
    have w2 := stepI_wide (c := f q.1 q.2) w1 h2
    obtain ⟨w3, e⟩ := runI_ent w2 (fun p m => hl p (List.mem_cons_of_mem _ m)) fun p m => hf p (List.mem_cons_of_mem _ m)
    refine ⟨w3, fun p c => ?_⟩
    rw [show runI f (q :: l) C = runI f l (stepI (stepI C q.1 (f q.1 q.2)) q.2 (f q.1 q.2)) from rfl, e, ent_step w1 h2 h3, ent_step h h1 h3]
    simp only [deg, List.map_cons, List.sum_cons]
    omega
theorem two_of {r : List Int} (h : r.length = 2) : r = [r.getD 0 0, r.getD 1 0] := by
  match r, h with
  | [a, b], _ => rfl
theorem counts_told {n : Nat} {f : Nat → Nat → Nat} (hf : ∀ p ∈ prsN n, f p.1 p.2 < 2) : countsP n f = (List.range n).map fun p => [2 * deg f (prsN n) p 0, 2 * deg f (prsN n) p 1] := by
  have hl : ∀ p ∈ prsN n, p.1 < n ∧ p.2 < n := fun p m => by have := prs_mem.mp m; omega
  have w0 : Wide n (List.replicate n [0, 0]) := ⟨List.length_replicate, fun r m => by rw [List.eq_of_mem_replicate m]; rfl⟩
  obtain ⟨w1, e1⟩ := runI_ent w0 hl hf
  obtain ⟨w2, e2⟩ := runI_ent w1 hl hf
  rw [counts_eq]
  refine List.ext_getElem? fun i => ?_
  have e0 : ∀ p c, ent (List.replicate n [0, 0]) p c = 0 := fun p c => by
    unfold ent
    by_cases q : p < n
    · have : (List.replicate n [(0 : Int), 0]).getD p [] = [0, 0] := by simp [q]
      rw [this]
      match c with
      | 0 => rfl
      | 1 => rfl
      | c + 2 => rfl
    · have : (List.replicate n [(0 : Int), 0]).getD p [] = [] := by simp [q]
      rw [this]; rfl
  rw [List.getElem?_map]
  by_cases q : i < n
  · rw [List.getElem?_range q, getD_of (d := []) (by rw [w2.1]; exact q)]
    have h2 := w2.2 _ (getD_mem (d := []) (show i < (runI f (prsN n) (runI f (prsN n) (List.replicate n [0, 0]))).length by rw [w2.1]; exact q))
    have a0 := e2 i 0
    have a1 := e2 i 1
    rw [e1, e0] at a0 a1
    simp only [Option.map_some, Option.some.injEq]
    rw [two_of h2]
    unfold ent at a0 a1
    rw [a0, a1]
    congr 1
    · omega
    · congr 1; omega
  · rw [List.getElem?_eq_none (by rw [w2.1]; omega), List.getElem?_eq_none (by rw [List.length_range]; omega)]; rfl

/-! threes, told -/
noncomputable def m3 (x y z : Int) : Int := if x == y && y == z then 1 else 0
noncomputable def triL (n : Nat) : List (Nat × Nat × Nat) := (List.range n).flatMap fun c => (List.range c).flatMap fun b => (List.range b).map fun a => (a, b, c)
theorem len_filter {α : Type} (p : α → Bool) : ∀ l : List α, ((l.filter p).length : Int) = (l.map fun a => if p a then (1 : Int) else 0).sum
  | [] => rfl
  | a :: l => by
    rw [List.filter_cons, List.map_cons, List.sum_cons, ← len_filter p l]
    cases p a <;> simp
    omega
theorem flat_filter {α β γ : Type} (l : List α) (h : α → List β) (p : β → Bool) (g : β → γ) : (l.flatMap fun a => ((h a).filter p).map g) = ((l.flatMap h).filter p).map g := by
  induction l with
  | nil => rfl
  | cons a l ih => rw [List.flatMap_cons, List.flatMap_cons, List.filter_append, List.map_append, ih]
theorem threes_told (n : Nat) (f : Nat → Nat → Int) : ((threesL n f).length : Int) = ((triL n).map fun t => m3 (f t.1 t.2.1) (f t.1 t.2.2) (f t.2.1 t.2.2)).sum := by
  have e : threesL n f = ((triL n).filter fun t => monoB f t.1 t.2.1 t.2.2).map fun t => t3 t.1 t.2.1 t.2.2 := by
    unfold threesL triL
    rw [← flat_filter]
    refine congrArg (fun F => List.flatMap F (List.range n)) (funext fun c => ?_)
    rw [← flat_filter]
    refine congrArg (fun F => List.flatMap F (List.range c)) (funext fun b => ?_)
    rw [List.filter_map, List.map_map]; rfl
  rw [e, List.length_map, len_filter]
  rfl
end Mine

namespace Mine

noncomputable def bit (x : Int) : Prop := x = 0 ∨ x = 1
noncomputable def neI (x y : Int) : Int := if x = y then 0 else 1
theorem tri_ne {x y z : Int} (hx : bit x) (hy : bit y) (hz : bit z) : neI x y + (neI x z + neI y z) = 2 - 2 * m3 x y z := by
  rcases hx with rfl | rfl <;> rcases hy with rfl | rfl <;> rcases hz with rfl | rfl <;> decide
theorem m3_cyc (x y z : Int) : m3 x y z = m3 z x y := by
  have : ((x == y && y == z) = true) ↔ ((z == x && x == y) = true) := by
    simp only [Bool.and_eq_true, beq_iff_eq]; omega
  unfold m3
  by_cases q : (x == y && y == z) = true
  · rw [if_pos q, if_pos (this.mp q)]
  · rw [if_neg q, if_neg fun z => q (this.mpr z)]
theorem asI_bit {f : Nat → Nat → Nat} (hf : ∀ a b, f a b < 2) (a b : Nat) : bit (asI f a b) := by
  have := hf a b
  unfold bit asI; omega

/-! sums -/
theorem sum_flatMap {α β : Type} (F : β → Int) (h : α → List β) : ∀ l : List α, ((l.flatMap h).map F).sum = (l.map fun a => ((h a).map F).sum).sum
  | [] => rfl
  | a :: l => by rw [List.flatMap_cons, List.map_append, List.sum_append, sum_flatMap F h l, List.map_cons, List.sum_cons]
theorem sum_perm {α : Type} (F : α → Int) {l l' : List α} (h : l.Perm l') : (l.map F).sum = (l'.map F).sum := by
  induction h with
  | nil => rfl
  | cons a _ ih => rw [List.map_cons, List.map_cons, List.sum_cons, List.sum_cons, ih]
  | swap a b l => simp only [List.map_cons, List.sum_cons]; omega
  | trans _ _ h1 h2 => exact h1.trans h2
theorem sum_congr {α : Type} {F H : α → Int} {l : List α} (h : ∀ a ∈ l, F a = H a) : (l.map F).sum = (l.map H).sum := congrArg List.sum (List.map_congr_left h)
theorem sum_mul {α : Type} (c : Int) (F : α → Int) : ∀ l : List α, (l.map fun a => c * F a).sum = c * (l.map F).sum
  | [] => by simp
  | a :: l => by rw [List.map_cons, List.map_cons, List.sum_cons, List.sum_cons, sum_mul c F l, Int.mul_add]
theorem sum_sub {α : Type} (F H : α → Int) : ∀ l : List α, (l.map fun a => F a - H a).sum = (l.map F).sum - (l.map H).sum
  | [] => by simp
  | a :: l => by simp only [List.map_cons, List.sum_cons, sum_sub F H l]; omega
theorem sum_add {α : Type} (F H : α → Int) : ∀ l : List α, (l.map fun a => F a + H a).sum = (l.map F).sum + (l.map H).sum
  | [] => by simp
  | a :: l => by simp only [List.map_cons, List.sum_cons, sum_add F H l]; omega
theorem sum_const {α : Type} (c : Int) : ∀ l : List α, (l.map fun _ => c).sum = c * l.length
  | [] => by simp
  | a :: l => by rw [List.map_cons, List.sum_cons, sum_const c l, List.length_cons]; push_cast; rw [Int.mul_add]; omega
theorem sum_le {α : Type} {F : α → Int} {B : Int} : ∀ {l : List α}, (∀ a ∈ l, F a ≤ B) → (l.map F).sum ≤ B * l.length
  | [], _ => by simp
  | a :: l, h => by
    have h1 := h a (List.mem_cons_self ..)
    have h2 := sum_le fun b m => h b (List.mem_cons_of_mem _ m)
    rw [List.map_cons, List.sum_cons, List.length_cons]; push_cast; rw [Int.mul_add]; omega
theorem sum_bit {α : Type} {F : α → Int} : ∀ {l : List α}, (∀ a ∈ l, bit (F a)) → 0 ≤ (l.map F).sum ∧ (l.map F).sum ≤ l.length
  | [], _ => by simp
  | a :: l, h => by
    have h1 := h a (List.mem_cons_self ..)
    have h2 := sum_bit fun b m => h b (List.mem_cons_of_mem _ m)
    rw [List.map_cons, List.sum_cons, List.length_cons]; push_cast
    unfold bit at h1; omega

/-! what a place has -/
noncomputable def nbL (n p : Nat) : List Nat := (List.range n).filter fun q => q != p
noncomputable def eF (f : Nat → Nat → Nat) (p q : Nat) : Int := asI f (min p q) (max p q)
noncomputable def idxP (p : Nat) (q : Nat × Nat) : List Nat := if q.1 = p then [q.2] else if q.2 = p then [q.1] else []
theorem idx_all {n : Nat} (h : n = 4 ∨ n = 5 ∨ n = 6) : ∀ p ∈ List.range n, (prsN n).flatMap (idxP p) = nbL n p ∧ (nbL n p).length + 1 = n := by rcases h with rfl | rfl | rfl <;> decide
theorem deg_sum {v : Nat × Nat → Int} {w : Nat → Int} {p : Nat} : ∀ {l : List (Nat × Nat)}, (∀ q ∈ l, q.1 < q.2 ∧ (q.1 = p → v q = w q.2) ∧ (q.2 = p → v q = w q.1)) →
    (l.map fun q => (if q.1 = p then v q else 0) + (if q.2 = p then v q else 0)).sum = ((l.flatMap (idxP p)).map w).sum
  | [], _ => rfl
  | q :: l, h => by
    obtain ⟨h1, h2, h3⟩ := h q (List.mem_cons_self ..)
    rw [List.map_cons, List.sum_cons, deg_sum fun q m => h q (List.mem_cons_of_mem _ m), List.flatMap_cons, List.map_append, List.sum_append]
    congr 1
    unfold idxP
    by_cases q1 : q.1 = p
    · have q2 : ¬ q.2 = p := by omega
      rw [if_pos q1, if_neg q2, if_pos q1, h2 q1]; simp
    · by_cases q2 : q.2 = p
      · rw [if_neg q1, if_pos q2, if_neg q1, if_pos q2, h3 q2]; simp
      · rw [if_neg q1, if_neg q2, if_neg q1, if_neg q2]; simp
theorem i01_1 {P : Prop} [Decidable P] {m : Nat} (h : m < 2) : i01 (P ∧ m = 1) = if P then (m : Int) else 0 := by
  unfold i01
  by_cases q : P
  · rcases (show m = 0 ∨ m = 1 by omega) with rfl | rfl <;> simp [q]
  · simp [q]
theorem i01_0 {P : Prop} [Decidable P] {m : Nat} (h : m < 2) : i01 (P ∧ m = 0) = if P then 1 - (m : Int) else 0 := by
  unfold i01
  by_cases q : P
  · rcases (show m = 0 ∨ m = 1 by omega) with rfl | rfl <;> simp [q]
  · simp [q]
noncomputable def dP (n : Nat) (f : Nat → Nat → Nat) (p : Nat) : Int := ((nbL n p).map (eF f p)).sum
theorem eF_of {f : Nat → Nat → Nat} {q : Nat × Nat} {p : Nat} (h : q.1 < q.2) : (q.1 = p → asI f q.1 q.2 = eF f p q.2) ∧ (q.2 = p → asI f q.1 q.2 = eF f p q.1) := by
  constructor
  · rintro rfl; unfold eF; rw [Nat.min_eq_left (by omega), Nat.max_eq_right (by omega)]
  · rintro rfl; unfold eF; rw [Nat.min_eq_right (by omega), Nat.max_eq_left (by omega)]
theorem deg_1 {n : Nat} {f : Nat → Nat → Nat} (hn : n = 4 ∨ n = 5 ∨ n = 6) (hf : ∀ a b, f a b < 2) {p : Nat} (hp : p < n) : deg f (prsN n) p 1 = dP n f p := by
  unfold deg dP
  rw [sum_congr (H := fun q => (if q.1 = p then asI f q.1 q.2 else 0) + (if q.2 = p then asI f q.1 q.2 else 0)) fun q _ => by rw [i01_1 (hf _ _), i01_1 (hf _ _)]; rfl,
    deg_sum (v := fun q => asI f q.1 q.2) (w := eF f p) fun q m => ⟨(prs_mem.mp m).1, eF_of (prs_mem.mp m).1⟩, (idx_all hn p (List.mem_range.mpr hp)).1]
theorem deg_0 {n : Nat} {f : Nat → Nat → Nat} (hn : n = 4 ∨ n = 5 ∨ n = 6) (hf : ∀ a b, f a b < 2) {p : Nat} (hp : p < n) : deg f (prsN n) p 0 = (n : Int) - 1 - dP n f p := by
  unfold deg dP
  have hi := idx_all hn p (List.mem_range.mpr hp)
  rw [sum_congr (H := fun q => (if q.1 = p then 1 - asI f q.1 q.2 else 0) + (if q.2 = p then 1 - asI f q.1 q.2 else 0)) fun q _ => by rw [i01_0 (hf _ _), i01_0 (hf _ _)]; rfl,
    deg_sum (v := fun q => 1 - asI f q.1 q.2) (w := fun r => 1 - eF f p r) fun q m => ⟨(prs_mem.mp m).1, fun h => by rw [(eF_of (prs_mem.mp m).1).1 h], fun h => by rw [(eF_of (prs_mem.mp m).1).2 h]⟩, hi.1, sum_sub (fun _ => 1) (eF f p), sum_const]
  omega
theorem dP_range {n : Nat} {f : Nat → Nat → Nat} (hn : n = 4 ∨ n = 5 ∨ n = 6) (hf : ∀ a b, f a b < 2) {p : Nat} (hp : p < n) : 0 ≤ dP n f p ∧ dP n f p ≤ (n : Int) - 1 := by
  have h1 := sum_bit (F := eF f p) (l := nbL n p) fun q _ => asI_bit hf _ _
  have h2 := (idx_all hn p (List.mem_range.mpr hp)).2
  unfold dP; omega
theorem rows_told {n : Nat} {f : Nat → Nat → Nat} (hn : n = 4 ∨ n = 5 ∨ n = 6) (hf : ∀ a b, f a b < 2) : countsP n f = (List.range n).map fun p => [2 * ((n : Int) - 1 - dP n f p), 2 * dP n f p] := by
  rw [counts_told fun p _ => hf _ _]
  refine List.map_congr_left fun p m => ?_
  rw [deg_1 hn hf (List.mem_range.mp m), deg_0 hn hf (List.mem_range.mp m)]

/-! what two of a place's others have -/
noncomputable def pairS : List Int → Int
  | [] => 0
  | x :: xs => (xs.map (neI x)).sum + pairS xs
theorem pair_told : ∀ {xs : List Int}, (∀ x ∈ xs, bit x) → ((xs.length : Int) - xs.sum) * xs.sum = pairS xs
  | [], _ => by simp [pairS]
  | x :: xs, h => by
    have ih := pair_told fun y m => h y (List.mem_cons_of_mem _ m)
    have hb : ∀ y ∈ xs, bit y := fun y m => h y (List.mem_cons_of_mem _ m)
    unfold pairS
    rw [← ih]
    rcases h x (List.mem_cons_self ..) with rfl | rfl
    · have : (xs.map (neI 0)).sum = xs.sum := by
        rw [sum_congr (H := id) fun y m => by rcases hb y m with rfl | rfl <;> decide, List.map_id]
      rw [this, List.length_cons, List.sum_cons]; push_cast
      rw [Int.zero_add, show (xs.length : Int) + 1 - xs.sum = 1 + ((xs.length : Int) - xs.sum) by omega, Int.add_mul, Int.one_mul]
    · have : (xs.map (neI 1)).sum = (xs.length : Int) - xs.sum := by
        rw [sum_congr (H := fun y => 1 - y) fun y m => by rcases hb y m with rfl | rfl <;> decide, sum_sub (fun _ => 1) (fun y => y), sum_const, List.map_id']; omega
      rw [this, List.length_cons, List.sum_cons]; push_cast
      rw [show (xs.length : Int) + 1 - (1 + xs.sum) = (xs.length : Int) - xs.sum by omega, Int.mul_add, Int.mul_one]
noncomputable def prL : List Nat → List (Nat × Nat)
  | [] => []
  | x :: xs => xs.map (fun y => (x, y)) ++ prL xs
theorem pair_map (F : Nat → Int) : ∀ l : List Nat, pairS (l.map F) = ((prL l).map fun q => neI (F q.1) (F q.2)).sum
  | [] => rfl
  | x :: l => by
    show ((l.map F).map (neI (F x))).sum + pairS (l.map F) = ((l.map (fun y => (x, y)) ++ prL l).map fun q => neI (F q.1) (F q.2)).sum
    rw [List.map_append, List.sum_append, ← pair_map F l, List.map_map, List.map_map]; rfl
noncomputable def chL (n : Nat) : List (Nat × Nat × Nat) := (List.range n).flatMap fun p => (prL (nbL n p)).map fun q => (p, q.1, q.2)
theorem ch_tri {n : Nat} (h : n = 4 ∨ n = 5 ∨ n = 6) : (chL n).Perm ((triL n).flatMap fun t => [(t.1, t.2.1, t.2.2), (t.2.1, t.1, t.2.2), (t.2.2, t.1, t.2.1)]) := by rcases h with rfl | rfl | rfl <;> decide +kernel
theorem tri_len {n : Nat} (h : n = 4 ∨ n = 5 ∨ n = 6) : ((n : Int) * (n - 1) * (n - 2)).fdiv 6 = (triL n).length := by rcases h with rfl | rfl | rfl <;> decide
theorem tri_mem {n : Nat} {t : Nat × Nat × Nat} (h : t ∈ triL n) : t.1 < t.2.1 ∧ t.2.1 < t.2.2 ∧ t.2.2 < n := by
  simp only [triL, List.mem_flatMap, List.mem_map, List.mem_range] at h
  obtain ⟨c, hc, b, hb, a, ha, rfl⟩ := h
  exact ⟨ha, hb, hc⟩
theorem eF_lt {f : Nat → Nat → Nat} {a b : Nat} (h : a < b) : eF f a b = asI f a b ∧ eF f b a = asI f a b := by
  unfold eF
  rw [Nat.min_eq_left (by omega), Nat.max_eq_right (by omega), Nat.min_eq_right (by omega), Nat.max_eq_left (by omega)]
  exact ⟨rfl, rfl⟩

theorem goodman {n : Nat} {f : Nat → Nat → Nat} (hn : n = 4 ∨ n = 5 ∨ n = 6) (hf : ∀ a b, f a b < 2) : apartP n f = 8 * (triL n).length - 8 * (threesL n (asI f)).length := by
  have h1 : apartP n f = 4 * ((chL n).map fun t => neI (eF f t.1 t.2.1) (eF f t.1 t.2.2)).sum := by
    unfold apartP chL
    rw [rows_told hn hf, List.map_map, sum_flatMap, ← sum_mul]
    refine sum_congr fun p m => ?_
    have hl := (idx_all hn p m).2
    have h2 := pair_told (xs := (nbL n p).map (eF f p)) fun x mx => by
      obtain ⟨q, _, rfl⟩ := List.mem_map.mp mx
      exact asI_bit hf _ _
    rw [pair_map, List.length_map] at h2
    rw [List.map_map]
    show 2 * ((n : Int) - 1 - dP n f p) * (2 * dP n f p) = 4 * ((prL (nbL n p)).map fun q => neI (eF f p q.1) (eF f p q.2)).sum
    rw [← h2, show ((nbL n p).length : Int) = (n : Int) - 1 by omega]
    show _ = 4 * (((n : Int) - 1 - dP n f p) * dP n f p)
    generalize (n : Int) - 1 - dP n f p = x
    generalize dP n f p = y
    rw [Int.mul_assoc 2 x, Int.mul_left_comm x 2 y, ← Int.mul_assoc]; rfl
  rw [h1, sum_perm _ (ch_tri hn), sum_flatMap, threes_told]
  have h2 : ((triL n).map fun t => (([(t.1, t.2.1, t.2.2), (t.2.1, t.1, t.2.2), (t.2.2, t.1, t.2.1)] : List (Nat × Nat × Nat)).map fun t => neI (eF f t.1 t.2.1) (eF f t.1 t.2.2)).sum).sum
      = ((triL n).map fun t => 2 - 2 * m3 (asI f t.1 t.2.1) (asI f t.1 t.2.2) (asI f t.2.1 t.2.2)).sum := by
    refine sum_congr fun t m => ?_
    obtain ⟨h1, h2, _⟩ := tri_mem m
    simp only [List.map_cons, List.map_nil, List.sum_cons, List.sum_nil]
    rw [(eF_lt h1).1, (eF_lt h1).2, (eF_lt h2).1, (eF_lt h2).2, (eF_lt (show t.1 < t.2.2 by omega)).1, (eF_lt (show t.1 < t.2.2 by omega)).2, Int.add_zero]
    exact tri_ne (asI_bit hf _ _) (asI_bit hf _ _) (asI_bit hf _ _)
  rw [h2, sum_sub (fun _ => 2) (fun t : Nat × Nat × Nat => 2 * m3 (asI f t.1 t.2.1) (asI f t.1 t.2.2) (asI f t.2.1 t.2.2)), sum_const, sum_mul]
  omega

/-! moved -/
noncomputable def unT (n : Nat) (t : Nat × Nat × Nat) : Nat × Nat × Nat := if t.1 = 0 then (t.2.1 - 1, t.2.2 - 1, n - 1) else (t.1 - 1, t.2.1 - 1, t.2.2 - 1)
theorem un_perm {n : Nat} (h : n = 4 ∨ n = 5 ∨ n = 6) : ((triL n).map (unT n)).Perm (triL n) := by rcases h with rfl | rfl | rfl <;> decide +kernel
theorem moved_same {n : Nat} (hn : n = 4 ∨ n = 5 ∨ n = 6) (f : Nat → Nat → Nat) : (threesL n (movI n f)).length = (threesL n (asI f)).length := by
  have h1 := threes_told n (movI n f)
  have h2 := threes_told n (asI f)
  rw [← sum_perm _ (un_perm hn), List.map_map] at h2
  have h3 : ((triL n).map fun t => m3 (movI n f t.1 t.2.1) (movI n f t.1 t.2.2) (movI n f t.2.1 t.2.2)).sum = ((triL n).map ((fun t => m3 (asI f t.1 t.2.1) (asI f t.1 t.2.2) (asI f t.2.1 t.2.2)) ∘ unT n)).sum := by
    refine sum_congr fun t m => ?_
    obtain ⟨g1, g2, _⟩ := tri_mem m
    simp only [Function.comp_apply, movI, unrot, unT]
    rw [if_neg (show ¬ t.2.1 = 0 by omega)]
    by_cases q : t.1 = 0
    · rw [if_pos q, if_pos q, if_pos q]
      exact m3_cyc _ _ _
    · rw [if_neg q, if_neg q, if_neg q]
  omega

/-! one two changed -/
theorem chg1 {v y z : Int} (hv : bit v) (hy : bit y) (hz : bit z) : m3 (1 - v) y z = m3 v y z + ((if (y == z && z != v) = true then (1 : Int) else 0) - (if (y == z && z == v) = true then (1 : Int) else 0)) := by
  rcases hv with rfl | rfl <;> rcases hy with rfl | rfl <;> rcases hz with rfl | rfl <;> decide
theorem chg2 {v y z : Int} (hv : bit v) (hy : bit y) (hz : bit z) : m3 y (1 - v) z = m3 y v z + ((if (y == z && z != v) = true then (1 : Int) else 0) - (if (y == z && z == v) = true then (1 : Int) else 0)) := by
  rcases hv with rfl | rfl <;> rcases hy with rfl | rfl <;> rcases hz with rfl | rfl <;> decide
theorem chg3 {v y z : Int} (hv : bit v) (hy : bit y) (hz : bit z) : m3 y z (1 - v) = m3 y z v + ((if (y == z && z != v) = true then (1 : Int) else 0) - (if (y == z && z == v) = true then (1 : Int) else 0)) := by
  rcases hv with rfl | rfl <;> rcases hy with rfl | rfl <;> rcases hz with rfl | rfl <;> decide
noncomputable def third (p : Nat × Nat) (t : Nat × Nat × Nat) : List Nat := if (t.1, t.2.1) = p then [t.2.2] else if (t.1, t.2.2) = p then [t.2.1] else if (t.2.1, t.2.2) = p then [t.1] else []
theorem third_all {n : Nat} (h : n = 4 ∨ n = 5 ∨ n = 6) : ∀ p ∈ prsN n, (triL n).flatMap (third p) = (List.range n).filter fun q => !(q == p.1 || q == p.2) := by rcases h with rfl | rfl | rfl <;> decide +kernel
theorem changed_told {n : Nat} {f : Nat → Nat → Nat} (hn : n = 4 ∨ n = 5 ∨ n = 6) (hf : ∀ a b, f a b < 2) {p : Nat × Nat} (hp : p ∈ prsN n) :
    ((threesL n (updI (asI f) p (1 - asI f p.1 p.2))).length : Int) = (threesL n (asI f)).length - (((bothP n f p).filter fun q => q.1 == q.2 && q.2 == asI f p.1 p.2).length : Int) + (((bothP n f p).filter fun q => q.1 == q.2 && q.2 != asI f p.1 p.2).length : Int) := by
  let v := asI f p.1 p.2
  let F : Nat → Int := fun q => (if (eF f p.1 q == eF f p.2 q && eF f p.2 q != v) = true then (1 : Int) else 0) - (if (eF f p.1 q == eF f p.2 q && eF f p.2 q == v) = true then (1 : Int) else 0)
  have h1 : ((triL n).map fun t => m3 (updI (asI f) p (1 - v) t.1 t.2.1) (updI (asI f) p (1 - v) t.1 t.2.2) (updI (asI f) p (1 - v) t.2.1 t.2.2)).sum
      = ((triL n).map fun t => m3 (asI f t.1 t.2.1) (asI f t.1 t.2.2) (asI f t.2.1 t.2.2) + ((third p t).map F).sum).sum := by
    refine sum_congr fun t m => ?_
    obtain ⟨g1, g2, _⟩ := tri_mem m
    have hb := asI_bit hf
    unfold updI third
    by_cases q1 : (t.1, t.2.1) = p
    · have q2 : ¬ (t.1, t.2.2) = p := fun z => by rw [← q1] at z; simp at z; omega
      have q3 : ¬ (t.2.1, t.2.2) = p := fun z => by rw [← q1] at z; simp at z; omega
      rw [if_pos q1, if_neg q2, if_neg q3, if_pos q1]
      simp only [List.map_cons, List.map_nil, List.sum_cons, List.sum_nil, Int.add_zero, F, v, ← q1]
      rw [(eF_lt g2).1, (eF_lt (show t.1 < t.2.2 by omega)).1]
      exact chg1 (hb _ _) (hb _ _) (hb _ _)
    · by_cases q2 : (t.1, t.2.2) = p
      · have q3 : ¬ (t.2.1, t.2.2) = p := fun z => by rw [← q2] at z; simp at z; omega
        rw [if_neg q1, if_pos q2, if_neg q3, if_neg q1, if_pos q2]
        simp only [List.map_cons, List.map_nil, List.sum_cons, List.sum_nil, Int.add_zero, F, v, ← q2]
        rw [(eF_lt g1).1, (eF_lt g2).2]
        exact chg2 (hb _ _) (hb _ _) (hb _ _)
      · by_cases q3 : (t.2.1, t.2.2) = p
        · rw [if_neg q1, if_neg q2, if_pos q3, if_neg q1, if_neg q2, if_pos q3]
          simp only [List.map_cons, List.map_nil, List.sum_cons, List.sum_nil, Int.add_zero, F, v, ← q3]
          rw [(eF_lt g1).2, (eF_lt (show t.1 < t.2.2 by omega)).2]
          exact chg3 (hb _ _) (hb _ _) (hb _ _)
        · rw [if_neg q1, if_neg q2, if_neg q3, if_neg q1, if_neg q2, if_neg q3]; simp
  have h2 := threes_told n (updI (asI f) p (1 - v))
  rw [h1, sum_add, ← sum_flatMap, third_all hn p hp, ← threes_told] at h2
  have h3 := len_filter (fun q : Int × Int => q.1 == q.2 && q.2 == v) (bothP n f p)
  have h4 := len_filter (fun q : Int × Int => q.1 == q.2 && q.2 != v) (bothP n f p)
  unfold bothP at h3 h4
  rw [List.map_map] at h3 h4
  have h5 := sum_sub (fun q => if (eF f p.1 q == eF f p.2 q && eF f p.2 q != v) = true then (1 : Int) else 0) (fun q => if (eF f p.1 q == eF f p.2 q && eF f p.2 q == v) = true then (1 : Int) else 0) ((List.range n).filter fun q => !(q == p.1 || q == p.2))
  have h6 := h2.trans (congrArg (fun z => ((threesL n (asI f)).length : Int) + z) (h5.trans (congr (congrArg HSub.hSub h4.symm) h3.symm)))
  exact h6.trans ((by intro a b c; omega : ∀ a b c : Int, a + (c - b) = a - b + c) _ _ _)

theorem six_le {d : Int} (h : 0 ≤ d ∧ d ≤ 5) : (2 * (5 - d)) * (2 * d) ≤ 24 := by
  rcases (show d = 0 ∨ d = 1 ∨ d = 2 ∨ d = 3 ∨ d = 4 ∨ d = 5 by omega) with rfl | rfl | rfl | rfl | rfl | rfl <;> decide
theorem even_two (x : Int) : (2 * x).fmod 2 = 0 := by rw [Int.fmod_eq_emod_of_nonneg _ (by decide)]; omega

theorem facts_of {n : Nat} {f : Nat → Nat → Nat} (hn : n = 4 ∨ n = 5 ∨ n = 6) (hf : ∀ a b, f a b < 2) : F1 n f := by
  have hg := goodman hn hf
  refine ⟨fun r m => ?_, ?_, ?_, fun h => ?_, fun p m => changed_told hn hf m, moved_same hn f⟩
  · rw [rows_told hn hf] at m
    obtain ⟨p, mp, rfl⟩ := List.mem_map.mp m
    have := dP_range hn hf (List.mem_range.mp mp)
    exact ⟨_, _, rfl, by omega, by omega, by omega, by omega, by omega, even_two _⟩
  · rw [Int.fmod_eq_emod_of_nonneg _ (by decide)]; omega
  · rw [tri_len hn, Int.fdiv_eq_ediv_of_nonneg _ (by decide)]; omega
  · subst h
    have h1 : apartP 6 f ≤ 24 * ((List.range 6).length : Nat) := by
      unfold apartP
      rw [rows_told hn hf, List.map_map]
      exact sum_le fun p m => six_le (dP_range hn hf (List.mem_range.mp m))
    have h2 : ((triL 6).length : Int) = 20 := by decide
    rw [List.length_range] at h1
    omega
theorem facts_all {n : Nat} (hn : n = 4 ∨ n = 5 ∨ n = 6) (x : Nat) : F1 n (colF n x) := facts_of hn fun a b => colF_lt _ _ a b
end Mine

namespace Mine
open Sem (wp)

/-! the ground of a law, from the top's facts -/
noncomputable def freeB (p : Program) (loose : List Str) (xs : List Str) : Bool := xs.all fun x => !(startupNames.contains x) && !(loose.contains x) && !(((recsOf p).map (·.name)).contains x) && !(((litsOf p).map (·.1)).contains x) && !(((clssOf p loose).map (·.name)).contains x)

section
variable {p : Program} {loose : List Str} {mean : ExcName → Option Value} {mg mb : Str → Option Value} {h0 : Heap} {c1 P1 c2 P2 : Addr}

theorem free_at {xs : List Str} {x : Str} (T : Top p loose mean mg mb h0) (h : freeB p loose xs = true) (m : x ∈ xs) : mg x = none := by
  have := List.all_eq_true.mp h x m
  simp only [Bool.and_eq_true, Bool.not_eq_true', List.contains_eq_mem, decide_eq_false_iff_not] at this
  obtain ⟨⟨⟨⟨a, b⟩, c⟩, d⟩, e⟩ := this
  exact T.free x a b c d e

noncomputable def mkG (hT : W.TabsAt [(c1, P1), (c2, P2)] h0) (T : Top p loose mean mg mb h0) (hi : importsNone p = true) : G where
  base := W.ghostOf h0 [(c1, P1), (c2, P2)]
  mg := mg
  mb := mb
  T := fun a => a = P1 ∨ a = P2
  TI := fun h => TabI h c1 P1 39 4 qualD ∧ TabI h c2 P2 24 4 qualI
  nsG := W.ghost_ns hT T.g
  nsB := W.ghost_ns hT T.b
  lim := let ⟨mc, a, r⟩ := T.nolimit; ⟨mc, W.ghost_ns hT a, r⟩
  mods := by
    obtain ⟨mm, n, _⟩ := (T.seer hi).mods
    obtain ⟨o, es, ep, e, _⟩ := W.ghost_ns hT n
    rw [e]; rfl
  tnone := fun a q => W.hideAll_none _ (by simpa using q)
  tlive := fun h a t q => by
    rcases q with rfl | rfl
    · obtain ⟨_, ps, e, _⟩ := t.1; exact ⟨_, _, e, rfl, rfl⟩
    · obtain ⟨_, ps, e, _⟩ := t.2; exact ⟨_, _, e, rfl, rfl⟩
  tkeep := fun h h' t k => ⟨t.1.keep (fun o e => k _ _ e (.inl (.inl rfl))) fun b o e c => k _ _ e (.inr c), t.2.keep (fun o e => k _ _ e (.inl (.inr rfl))) fun b o e c => k _ _ e (.inr c)⟩

theorem tab_not_code {h : Heap} {c P : Addr} {l k : Nat} {q : Str} (t : TabI h c P l k q) {b : Addr} {o : Obj} (e : h.get? b = some o) (x : CodeObj o) : b ≠ P := fun r => by
  obtain ⟨_, ps, e', _⟩ := t
  subst r
  rw [e] at e'; cases e'
  exact nomatch x.1

theorem mkG_blt (hT : W.TabsAt [(c1, P1), (c2, P2)] h0) (T : Top p loose mean mg mb h0) (hi : importsNone p = true) {P : Addr} (hP : P = P1 ∨ P = P2) : ∀ h : Heap, (∀ b o, (mkG hT T hi).base.get? b = some o → h.get? b = some o) → h.BuiltinsAt (mkG hT T hi).mg P := fun h k => by
  obtain ⟨bm, ob, h1, h2, h3, h4, h5, h6⟩ := (W.ghost_top hT T).bmain
  refine ⟨bm, ob, h1, h2, fun q => ?_, fun q => ?_, k _ _ h3, h4, h5, h6⟩
  · obtain ⟨o, es, ep, e, hd, _⟩ := W.ghost_ns hT T.g
    rw [q, e] at h3; cases h3
    rw [hd] at h6; cases h6
  · have := (mkG hT T hi).tnone P hP
    rw [q] at h3
    rw [show (mkG hT T hi).base = W.ghostOf h0 [(c1, P1), (c2, P2)] from rfl, h3] at this
    cases this
theorem tabG1 (hT : W.TabsAt [(c1, P1), (c2, P2)] h0) (T : Top p loose mean mg mb h0) (hi : importsNone p = true) (hne : P1 ≠ P2) : TabG (mkG hT T hi) c1 P1 39 4 qualD where
  isT := .inl rfl
  get := fun h t => t.1
  put := fun h h' t k x => ⟨x, t.2.keep (fun o e => k _ _ (Ne.symm hne) e) fun b o e c => k b o (tab_not_code t.1 e c) e⟩
  blt := mkG_blt hT T hi (.inl rfl)
theorem tabG2 (hT : W.TabsAt [(c1, P1), (c2, P2)] h0) (T : Top p loose mean mg mb h0) (hi : importsNone p = true) (hne : P1 ≠ P2) : TabG (mkG hT T hi) c2 P2 24 4 qualI where
  isT := .inr rfl
  get := fun h t => t.2
  put := fun h h' t k x => ⟨t.1.keep (fun o e => k _ _ hne e) fun b o e c => k b o (tab_not_code t.2 e c) e, x⟩
  blt := mkG_blt hT T hi (.inr rfl)

/-- a function of the top -/
noncomputable def HasFn (p : Program) (name : Str) (i : Nat) : Prop := ∃ pos, (⟨name, fArgs dfltArgs (stm i), fBody (stm i), scp i, pos⟩ : DefRec) ∈ recsOf p

theorem fn_at {name : Str} {i : Nat} (hT : W.TabsAt [(c1, P1), (c2, P2)] h0) (T : Top p loose mean mg mb h0) (hi : importsNone p = true) (hm : HasFn p name i) :
    ∃ a o pm code doc, mg name = some (.ref a) ∧ h0.get? a = some o ∧ (mkG hT T hi).base.get? a = some o ∧ o.data = .func (Calls.docDef name (fArgs dfltArgs (stm i)) (fBody (stm i)) (scp i) pm code doc) ∧ (mkG hT T hi).base.CodeRec code name := by
  obtain ⟨pos, hm⟩ := hm
  obtain ⟨a, o, pm, code, doc, h1, h2, h3, c, o', vs, t, h4, h5, h6, h7⟩ := T.fn _ hm
  refine ⟨a, o, pm, code, doc, h1, h2, W.ghost_get hT h2 (fun q => by rw [q] at h3; cases h3), h3, c, o', vs, t, h4, W.ghost_get hT h5 (fun q => ?_), h6, h7⟩
  rw [q] at h6; cases h6; simp at h7

variable {w : World}
theorem bn_at {xs : List Str} {x : Str} {v : Value} (hT : W.TabsAt [(c1, P1), (c2, P2)] h0) (T : Top p loose mean mg mb h0) (hi : importsNone p = true) (h : freeB p loose xs = true) (m : x ∈ xs) (hn : x ≠ "__name__") (hv : bootBuiltins x = some v) : BN (mkG hT T hi) x v :=
  ⟨free_at T h m, (T.builtins x hn).trans hv⟩

noncomputable abbrev usedB : List Str := ["range", "len", "int", "sum", "abs", "sorted", "list", "isinstance", "tuple", "dict", "zip", "min", "max"]
theorem bs_at (hT : W.TabsAt [(c1, P1), (c2, P2)] h0) (T : Top p loose mean mg mb h0) (hi : importsNone p = true) (h : freeB p loose usedB = true) : Bs (mkG hT T hi) where
  range := bn_at hT T hi h (by decide) (by decide) (by rfl)
  len := bn_at hT T hi h (by decide) (by decide) (by rfl)
  int := bn_at hT T hi h (by decide) (by decide) (by rfl)
  sum := bn_at hT T hi h (by decide) (by decide) (by rfl)
  abs := bn_at hT T hi h (by decide) (by decide) (by rfl)
  sorted := bn_at hT T hi h (by decide) (by decide) (by rfl)
  list := bn_at hT T hi h (by decide) (by decide) (by rfl)
  isinstance := bn_at hT T hi h (by decide) (by decide) (by rfl)
  tuple := bn_at hT T hi h (by decide) (by decide) (by rfl)
  dict := bn_at hT T hi h (by decide) (by decide) (by rfl)
  zip := bn_at hT T hi h (by decide) (by decide) (by rfl)
  min := bn_at hT T hi h (by decide) (by decide) (by rfl)
  max := bn_at hT T hi h (by decide) (by decide) (by rfl)
end

/-- a call by the claim's caller -/
theorem code_of_run {g : G} {prog : Program} {w : World} {k : Nat} {body : List Stmt} {d : PyData} {f : Addr} {o : Obj} {name : Str} {params : Arguments} {scope : Scope} {pm cd doc : Value} {ds : List PyData} {names : List Str} (ho : g.base.get? f = some o) (hd : o.data = .func (Calls.docDef name params body scope pm cd doc)) (hcd : g.base.CodeRec cd name)
    (hco : scope.isCoroutine = false) (hgen : scope.isGenerator = false) (hok : funOk scope [] = true) (hbind : ∀ vs : List Value, vs.length = ds.length → bindArgs (Calls.docDef name params body scope pm cd doc) ⟨vs, []⟩ = pure (names.zip vs))
    (hlen : names.length = ds.length) (hx : names.all (storable scope) = true) (x : RunR g prog w k scope false (names.zip ds).reverse body d)
    {A : Around} {N : Addr → Prop} {s : Shared} {vs : List Value} {R : Result → Shared → Prop} (hr : Room A (k + 1)) (c : Cx g N s.heap) (dv : DenL w N s.heap ds vs)
    (hQ : ∀ h' tk r, Mv g noO s.heap h' → Den w N h' d r → R (.ok (.ret r)) { s with heap := h', toks := tk }) : codeAny (model prog w) A (.call (.ref f) ⟨vs, []⟩) R s := by
  refine call_fun (k := k) (ρ₀ := []) (names := names) (ds := ds) (Ff := fun _ _ => True) hr c (c.glo _ _ ho) hd rfl ?_ rfl rfl hco hgen hok Clo.none (fun x c e => by simp [Calls.docDef] at e) (fun x d e => by simp at e) (hbind vs dv.length.symm) hlen hx dv fun h₁ t₁ env N' E' hs hr' _ _ z' _ m₁ hN hN' hown => ?_
  · obtain ⟨c', o', vs', t', q1, q2, q3⟩ := hcd
    exact ⟨c', o', vs', t', q1, c.glo _ _ q2, q3⟩
  · refine x (A.deeper env) env N' { s with heap := h₁, toks := t₁ } _ E' hs hr' (by simpa using z') fun h₂ t₂ v m₂ d₂ => ?_
    exact hQ h₂ t₂ v (m₁.fresh m₂ fun a o => .inr (hown a o)) (d₂.weaken fun a _ n => .inl (hN a n))

theorem den_well {P : Params} {w : World} {N : Addr → Prop} {h : Heap} : ∀ {ns : List Int} {vs : List Value}, W.WellAll P h vs (W.ofPys (ns.map .int)) → DenL w N h (ns.map .int) vs
  | [], _, x => by cases x; exact .nil
  | n :: ns, _, x => by
    rw [List.map_cons, W.ofPys, W.ofPy] at x
    cases x with
    | cons a r => cases a; exact .cons (.int _ _) (den_well r)
end Mine

namespace Mine
open Sem (wp)

section
variable {p : Program} {loose : List Str} {mean : ExcName → Option Value} {mg mb : Str → Option Value} {h0 : Heap} {c1 P1 c2 P2 : Addr} {prog : Program} {w : World}

theorem len1 {vs : List Value} (h : vs.length = 1) : ∃ a, vs = [a] := by
  match vs, h with
  | [a], _ => exact ⟨a, rfl⟩
theorem len2 {vs : List Value} (h : vs.length = 2) : ∃ a b, vs = [a, b] := by
  match vs, h with
  | [a, b], _ => exact ⟨a, b, rfl⟩

/-- the code of a function of the top -/
noncomputable abbrev CodeIs (mg : Str → Option Value) (h : Heap) (name : Str) (c : Addr) : Prop := ∀ fa o fd, mg name = some (.ref fa) → h.get? fa = some o → o.data = .func fd → fd.code = .ref c

theorem fns1_at (hT : W.TabsAt [(c1, P1), (c2, P2)] h0) (T : Top p loose mean mg mb h0) (hi : importsNone p = true) (hne : P1 ≠ P2) (hf : freeB p loose usedB = true)
    (n1 : HasFn p "add_callers" 1) (n2 : HasFn p "count_calls" 2) (n4 : HasFn p "_int2digits" 4) (n5 : HasFn p "_digits2int" 5) (n7 : HasFn p "_law_counts" 7) (n8 : HasFn p "_law_threes" 8)
    (k1 : CodeIs mg h0 "_digits2int" c1) (k2 : CodeIs mg h0 "_int2digits" c2) : Nonempty (Fns1 (mkG hT T hi) prog w 30) := by
  have B := bs_at hT T hi hf
  obtain ⟨a1, o1, pm1, cd1, dc1, m1, g1, b1, d1, r1⟩ := fn_at hT T hi n1
  obtain ⟨a2, o2, pm2, cd2, dc2, m2, g2, b2, d2, r2⟩ := fn_at hT T hi n2
  obtain ⟨a4, o4, pm4, cd4, dc4, m4, g4, b4, d4, r4⟩ := fn_at hT T hi n4
  obtain ⟨a5, o5, pm5, cd5, dc5, m5, g5, b5, d5, r5⟩ := fn_at hT T hi n5
  obtain ⟨a7, o7, pm7, cd7, dc7, m7, g7, b7, d7, r7⟩ := fn_at hT T hi n7
  obtain ⟨a8, o8, pm8, cd8, dc8, m8, g8, b8, d8, r8⟩ := fn_at hT T hi n8
  have e4 : cd4 = .ref c2 := k2 a4 o4 _ m4 g4 d4
  have e5 : cd5 = .ref c1 := k1 a5 o5 _ m5 g5 d5
  subst e4; subst e5
  have hadd : ∀ t key, tabOk t → isKey key = true → t.length < sizeLine → Fn (mkG hT T hi) prog w 1 true (.ref a1) [tabD t, .dict [(key, .int 1)]] (tabD (bumpT t key)) := fun t key ht hk hs =>
    Fn.ofDef (k := 0) (names := ["target", "source"]) b1 d1 r1 rfl rfl rfl (fun vs h => by obtain ⟨x, y, rfl⟩ := len2 h; rfl) rfl rfl (add_run ht hk hs (B.isinstance.at rfl) (B.tuple.at rfl))
  have hcnt : ∀ t, (∀ p ∈ t, isKey p.1 = true) → Fn (mkG hT T hi) prog w 1 false (.ref a2) [tabD t] (.int (totT t)) := fun t ht =>
    Fn.ofDef (k := 0) (names := ["callers"]) b2 d2 r2 rfl rfl rfl (fun vs h => by obtain ⟨x, rfl⟩ := len1 h; rfl) rfl rfl (count_run ht)
  exact ⟨{
    i2d := a4
    d2i := a5
    cnts := a7
    thr := a8
    n1 := ⟨m4, o4, _, b4, d4⟩
    n2 := ⟨m5, o5, _, b5, d5⟩
    n3 := ⟨m7, o7, _, b7, d7⟩
    n4 := ⟨m8, o8, _, b8, d8⟩
    f1 := fun x m hm hl => Fn.up (int2digits_fn b4 d4 r4 (tabG2 hT T hi hne) (B.len.at rfl) hm (by omega)) (by omega)
    f2 := fun ds hb hl hn => Fn.up (digits2int_fn b5 d5 r5 (tabG1 hT T hi hne) (B.len.at rfl) hb (by omega) hn) (by omega)
    f3 := fun n f hn hf => Fn.up (Fn.ofDef (k := 1) (names := ["many", "ties"]) b7 d7 r7 rfl rfl rfl (fun vs h => by obtain ⟨x, y, rfl⟩ := len2 h; rfl) rfl rfl
      (counts_run hn (fun p m => by have := prs_mem.mp m; omega) (by have := prs_len hn; omega) hf B.range ⟨m1, o1, _, b1, d1⟩ hadd ⟨m2, o2, _, b2, d2⟩ hcnt)) (by omega)
    f4 := fun n t f hn hl => Fn.up (Fn.ofDef (k := 0) (names := ["many", "ties"]) b8 d8 r8 rfl rfl rfl (fun vs h => by obtain ⟨x, y, rfl⟩ := len2 h; rfl) rfl rfl
      (threes_run hn hl B.range)) (by omega) }⟩

theorem law1_run {g : G} {k : Nat} {ns : List Int} (B : Bs g) (F : Fns1 g prog w k) (hlen : ns.length ≤ 63) : RunR g prog w k (scp 9) false [("script", .list (ns.map .int))] (fBody (stm 9)) (.bool true) := by
  obtain ⟨n, hn, hns⟩ : ∃ n : Nat, (n = 4 ∨ n = 5 ∨ n = 6) ∧ 4 + ns.sum.fmod 3 = (n : Int) := by
    have h1 := Int.fmod_nonneg_of_pos ns.sum (show (0 : Int) < 3 by decide)
    have h2 := Int.fmod_lt_of_pos ns.sum (show (0 : Int) < 3 by decide)
    exact ⟨(4 + ns.sum.fmod 3).toNat, by omega, by omega⟩
  obtain ⟨x, hx⟩ : ∃ x : Nat, (if (ns ++ [0]).getD 0 0 < 0 then -((ns ++ [0]).getD 0 0) else (ns ++ [0]).getD 0 0).fmod (2 ^ (((prsN n).length : Nat) : Int).toNat) = (x : Int) :=
    ⟨_, (Int.toNat_of_nonneg (Int.fmod_nonneg_of_pos _ (Int.pow_pos (by decide)))).symm⟩
  have f := facts_all hn x
  exact law1_head B F hn hns hlen hx (law1_mid B F hn f (law1_tail B F hn f))

theorem law1_close {P : Params} {cw : W.ClaimW} {cl : Str → Option Addr} {mean' : ExcName → Option Value} {args : List W.WData} {s₁ : Shared} {fa v : Addr} {ns : List Int}
    (hT : W.TabsAt [(c1, P1), (c2, P2)] s₁.heap) (T : Top p loose mean mg mb s₁.heap) (hmg : mg "law" = some (.ref fa)) (hg : s₁.gens = #[]) (hw1 : W.Well P s₁.heap (.ref v) (W.ofPy (.list (ns.map .int)))) (hlen : ns.length ≤ 63)
    (hi : importsNone p = true) (hne : P1 ≠ P2) (hf : freeB p loose usedB = true)
    (n1 : HasFn p "add_callers" 1) (n2 : HasFn p "count_calls" 2) (n4 : HasFn p "_int2digits" 4) (n5 : HasFn p "_digits2int" 5) (n7 : HasFn p "_law_counts" 7) (n8 : HasFn p "_law_threes" 8) (n9 : HasFn p "law" 9)
    (k1 : CodeIs mg s₁.heap "_digits2int" c1) (k2 : CodeIs mg s₁.heap "_int2digits" c2)
    (hraise : ∀ a x, cw.raises a x = false) (hpost : cw.post args (.bool true) args = true) :
    codeAny (model prog w) callerA (.call (.ref fa) ⟨[.ref v], []⟩) (fun r s' => W.GoodW cw cl mean' args { s₁ with heap := W.ghostOf s₁.heap [(c1, P1), (c2, P2)] } r s' ∧ W.GrownAll [(c1, P1), (c2, P2)] s'.heap) s₁ := by
  have B := bs_at hT T hi hf
  obtain ⟨F⟩ := fns1_at (prog := prog) (w := w) hT T hi hne hf n1 n2 n4 n5 n7 n8 k1 k2
  obtain ⟨a, o, pm, cd, dc, m, g, b, d, r⟩ := fn_at hT T hi n9
  rw [hmg] at m; cases m
  obtain ⟨t1, t2⟩ : W.CodeHd s₁.heap c1 P1 ∧ s₁.heap.get? P1 = some (W.tabObj #[]) := hT (c1, P1) (.head _)
  obtain ⟨u1, u2⟩ : W.CodeHd s₁.heap c2 P2 ∧ s₁.heap.get? P2 = some (W.tabObj #[]) := hT (c2, P2) (.tail _ (.head _))
  have hmods : (s₁.heap.get? sysModules).isSome := by
    obtain ⟨mm, ⟨o, es, ep, e, _⟩, _⟩ := (T.seer hi).mods
    rw [e]; rfl
  have hcx : Cx (mkG hT T hi) (fun a => a = sysModules ∨ (a = P1 ∨ a = P2)) s₁.heap := {
    glo := fun b o e => W.of_hideAll _ e
    live := fun a q => by
      rcases q with rfl | rfl | rfl
      · exact hmods
      · rw [t2]; rfl
      · rw [u2]; rfl
    mods := .inl rfl
    tabs := fun a q => .inr q
    ti := ⟨⟨t1, _, t2, .inl rfl⟩, ⟨u1, _, u2, .inl rfl⟩⟩ }
  have hdv : DenL w (fun a => a = sysModules ∨ (a = P1 ∨ a = P2)) s₁.heap [.list (ns.map .int)] [.ref v] := by
    rw [W.ofPy] at hw1
    cases hw1 with
    | @list a vs xs e q =>
      refine .cons (.list (n := 0) (fun z => ?_) e (by simpa using den_well q)) .nil
      rcases z with rfl | rfl | rfl
      · obtain ⟨mm, ⟨o, es, ep, e', hd', _⟩, _⟩ := (T.seer hi).mods
        rw [e] at e'; cases e'; cases hd'
      · rw [e] at t2; cases t2
      · rw [e] at u2; cases u2
  refine code_of_run (k := 30) (names := ["script"]) b d r rfl rfl rfl (fun vs h => by obtain ⟨x, rfl⟩ := len1 h; rfl) rfl rfl (law1_run B F hlen) ⟨rfl, by decide, by decide⟩ hcx hdv fun h' tk rv mv dr => ?_
  cases dr
  refine ⟨⟨.inl ⟨_, _, _, rfl, hraise _, .bool true, hpost, fun _ => ⟨List.nodup_nil, fun a q => nomatch q⟩⟩, fun b o e => ?_, rfl, hg⟩, ?_⟩
  · refine mv.keep b o (W.of_hideAll _ e) (.inl ⟨fun q => ?_, fun q => q.elim⟩)
    have := (mkG hT T hi).tnone b q
    rw [show (mkG hT T hi).base = W.ghostOf s₁.heap [(c1, P1), (c2, P2)] from rfl] at this
    rw [this] at e; cases e
  · obtain ⟨⟨_, ps, e, _⟩, ⟨_, qs, e', _⟩⟩ := mv.ti hcx.ti
    exact ⟨⟨ps, e⟩, ⟨qs, e'⟩, trivial⟩
end
theorem law_post (l : W.OpenLaw) (args ds : List W.WData) : l.row.claim.post args (.bool true) ds = true := by
  have h : (W.WTm.eq .res (.lit (.bool true))).holds [] { args := args, res := some (.bool true), after := ds } = true := by
    unfold W.WTm.holds
    rw [W.w_eq_bool (k := true) (l := true) (by simp [W.WTm.value]) (by simp [W.WTm.value])]; rfl
  show (W.WShape.has [] (.bool true) .bool && W.WTm.holds [] (W.WTm.eq .res (.lit (.bool true))) { args := args, res := some (.bool true), after := ds }) = true
  rw [h, Bool.and_true]
  simp [W.WShape.has, W.WShape.arms]
end Mine

open PySem PySem.W PyProof.Rows
set_option maxRecDepth 100000 in
set_option maxHeartbeats 8000000 in
theorem PySem.Challenge.cw_ic0002_01_holds : PySem.Challenge.rw_ic0002_01.Holds := by
  (w_on; o_law; k_head; (case hw => w_witness2); w_strict (
    k_fill
    intro w s₀ s₁ mg mb G Y fa o pm cd doc dV kV ho hd hcd hD hmg hg args vals as hpre hlay hrd hwl hlo
    have KX := km_in_of Y
    km_tabs Y
    have X := (Ground.X G).1
    have V := (Ground.X G).2
    refine Ground.open G ?_
    intro T B D TE TW
    try (refine guard_noD D (by decide +kernel) ?_; clear D)
    have hmg0 := hmg
    km_lay T hmg ho hd cd
    wrow_args hpre hlay hrd hwl hlo
    all_goals (
      refine enter_call ?_
      w_top on
      kn_posts
      refine Mine.law1_close hT9 T hmg0 hg (by assumption) (by omega) (by decide +kernel) (by decide) (by decide +kernel) ?n1 ?n2 ?n4 ?n5 ?n7 ?n8 ?n9 ?k1 ?k2 (fun _ _ => rfl) ?post
      case n1 => exact ⟨_, List.mem_of_getElem? (i := 0) rfl⟩
      case n2 => exact ⟨_, List.mem_of_getElem? (i := 1) rfl⟩
      case n4 => exact ⟨_, List.mem_of_getElem? (i := 2) rfl⟩
      case n5 => exact ⟨_, List.mem_of_getElem? (i := 3) rfl⟩
      case n7 => exact ⟨_, List.mem_of_getElem? (i := 4) rfl⟩
      case n8 => exact ⟨_, List.mem_of_getElem? (i := 5) rfl⟩
      case n9 => exact ⟨_, List.mem_of_getElem? (i := 6) rfl⟩
      case k1 => exact fun fa o fd h1 h2 h3 => law_code (P := 37) KX (Top.g T) (by kernel_rfl) h1 h2 h3
      case k2 => exact fun fa o fd h1 h2 h3 => law_code (P := 30) KX (Top.g T) (by kernel_rfl) h1 h2 h3
      case post => exact Mine.law_post _ _ _)))
