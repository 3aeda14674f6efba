import PyProof.Rows.All
import Wide.All
import OpenK.AllK
import Wide.FinOn
import PySem.Challenge.RW_fr0003_01
set_option Elab.async false

/-! MapA -/
section
open PySem PySem.W PyProof.Rows
namespace Mine
set_option maxRecDepth 100000

/-! the builtin map: facts -/
theorem owner_map : Manifest.owners.lookup (String.ofList ['p', 'a', 'm'].reverse) = some Manifest.sig_map := by kernel_rfl
theorem slot_map_iter : Slot "map" "__iter__" "map.__iter__" :=
  .of (owner := "map") (n := "__iter__") (by rw [typeLookup_type, builtinLookup_eq_fast]; kernel_rfl) (by decide +kernel) (by decide +kernel) (by decide +kernel)
    (by first | exact .inl (by decide +kernel) | exact .inr (by decide +kernel)) (by rw [isSubtype_type]; kernel_rfl)
theorem slot_map_next : Slot "map" "__next__" "map.__next__" :=
  .of (owner := "map") (n := "__next__") (by rw [typeLookup_type, builtinLookup_eq_fast]; kernel_rfl) (by decide +kernel) (by decide +kernel) (by decide +kernel)
    (by first | exact .inl (by decide +kernel) | exact .inr (by decide +kernel)) (by rw [isSubtype_type]; kernel_rfl)
theorem slot_map_init : Slot "map" "__init__" "object.__init__" :=
  .of (owner := "object") (n := "__init__") (by rw [typeLookup_type, builtinLookup_eq_fast]; kernel_rfl) (by decide +kernel) (by decide +kernel) (by decide +kernel)
    (by first | exact .inl (by decide +kernel) | exact .inr (by decide +kernel)) (by rw [isSubtype_type]; kernel_rfl)
theorem args_map_iter (a : Value) : argsOk "map.__iter__" ⟨[a], []⟩ := by
  unfold argsOk; rw [signature?_of (id := "map.__iter__") (n := ['_', '_', 'r', 'e', 't', 'i', '_', '_']) (o := ['p', 'a', 'm']) (by kernel_rfl) owner_map]; kernel_rfl
theorem args_map_next (a : Value) : argsOk "map.__next__" ⟨[a], []⟩ := by
  unfold argsOk; rw [signature?_of (id := "map.__next__") (n := ['_', '_', 't', 'x', 'e', 'n', '_', '_']) (o := ['p', 'a', 'm']) (by kernel_rfl) owner_map]; kernel_rfl
theorem entry_map_next : entryFor table "map.__next__" = some Builtin.«map.__next__» := entryFor_of_fast (by kernel_rfl)
theorem entry_map_new : entryFor table "map.__new__" = some Builtin.«map.__new__» := entryFor_of_fast (by kernel_rfl)
theorem entry_map_iter : entryFor table "map.__iter__" = some Builtin.«dict_keyiterator.__iter__» :=
  entryFor_alias (id' := "dict_keyiterator.__iter__") (by kernel_rfl) (by first | rfl | decide +kernel | (unfold String.splitOn; simp +decide [String.splitOnAux])) (by decide +kernel) (by kernel_rfl)
theorem mro_map : mroOf (.type "map") = pure [.type "map", .type "object"] := by rw [mroOf_type]; kernel_rfl
theorem lookup_map_new : typeLookup (.type "map") "__new__" = pure (some (.builtin "map.__new__")) := by rw [typeLookup_type, builtinLookup_eq_fast]; kernel_rfl
theorem called_map : TypeCalled "map" "map.__new__" "object.__init__" :=
  ⟨by decide +kernel, by decide +kernel, ⟨_, _, mro_map⟩, madeBy_type mro_map lookup_map_new (by decide +kernel), by decide +kernel, by rw [isSubtype_type]; kernel_rfl, slot_map_init⟩
theorem typeCall_map (a b : Value) : checkTypeCall "map" ⟨[a, b], []⟩ = pure () := by kernel_rfl
theorem newCall_map (a b : Value) : checkBuiltinCall "map.__new__" ⟨[.type "map", a, b], []⟩ = pure () := by kernel_rfl
theorem map_no_len : typeLookup (.type "map") "__len__" = pure none := by rw [typeLookup_type, builtinLookup_eq_fast]; kernel_rfl
theorem map_no_hint : typeLookup (.type "map") "__length_hint__" = pure none := by rw [typeLookup_type, builtinLookup_eq_fast]; kernel_rfl
theorem sub_map : isSubtype (.type "map") (.type "map") = pure true := by rw [isSubtype_type]; kernel_rfl

/-! a map object over one list iterator -/
abbrev IsMap (h : Heap) (z T : Addr) (f : Value) : Prop :=
  h.get? z = some { cls := .type "map", dict := none, data := .fields #[.ref T, f], slots := #[] }
abbrev IsOne (h : Heap) (T : Addr) (v : Value) : Prop := h.get? T = some { cls := .type "tuple", data := .seq #[v] }

abbrev mapH1 (h : Heap) (l : Addr) : Heap := h.push { cls := .type "list_iterator", data := .fields #[.ref l, .int 0 0] }
abbrev mapH2 (h : Heap) (l : Addr) : Heap := (mapH1 h l).push { cls := .type "tuple", data := .seq #[.ref h.objs.size] }
abbrev mapH3 (h : Heap) (l : Addr) (f : Value) : Heap := (mapH2 h l).push { cls := .type "map", data := .fields #[.ref (mapH1 h l).objs.size, f] }

theorem meets_map_new (f : Value) (l : Addr) (xs : Array Value) :
    Meets (Builtin.«map.__new__» ⟨[.type "map", f, .ref l], []⟩) (fun _ R s => s.heap.IsList l xs ∧
      R (.ok (.ret (.ref (mapH2 s.heap l).objs.size))) { s with heap := mapH3 s.heap l f }) :=
  .of_wp fun prog w A R s h => by
    obtain ⟨hp, g, d, tk, os⟩ := s; obtain ⟨hl, h⟩ := h
    have hsub := sub_map
    have hL : Heap.IsList (Shared.heap ⟨hp, g, d, tk, os⟩) l xs := hl
    wp_walk using wpAny_pyIter_list hL
    exact ⟨_, rfl, h⟩

section
variable {prog : Program} {w : World} {A : Around} {E : Value → Shared → Prop} {s : Shared}

theorem call_map_list {f : Value} {l : Addr} {xs : Array Value} {Q : Value → Shared → Prop} (hl : s.heap.IsList l xs)
    (h : ∀ h', IsMap h' (s.heap.objs.size + 2) (s.heap.objs.size + 1) f → IsOne h' (s.heap.objs.size + 1) (.ref s.heap.objs.size) → h'.IsListIter s.heap.objs.size l 0 →
      h'.objs.size = s.heap.objs.size + 3 → (∀ c o, s.heap.get? c = some o → h'.get? c = some o) → Q (.ref (s.heap.objs.size + 2)) { s with heap := h' }) :
    wpAny (model prog w) A (call (.type "map") [f, .ref l]) Q E s := by
  refine callType_new called_map (by decide) (typeCall_map _ _) (newCall_map _ _) (fun obj => F.args_object_init_3 obj _ _) entry_map_new
    (meets_map_new f l xs) ⟨hl, ?_⟩
  have z1 : (mapH1 s.heap l).objs.size = s.heap.objs.size + 1 := Heap.size_push ..
  have z2 : (mapH2 s.heap l).objs.size = s.heap.objs.size + 2 := by rw [Heap.size_push, z1]
  have z3 : (mapH3 s.heap l f).objs.size = s.heap.objs.size + 3 := by rw [Heap.size_push, z2]
  have g3 : (mapH3 s.heap l f).get? (mapH2 s.heap l).objs.size = some _ := Heap.get?_push_size _ rfl
  have g2 : (mapH3 s.heap l f).get? (mapH1 s.heap l).objs.size = some _ := Heap.get?_push_of_some _ (Heap.get?_push_size _ rfl)
  have g1 : (mapH3 s.heap l f).get? s.heap.objs.size = some _ := Heap.get?_push_of_some _ (Heap.get?_push_of_some _ (Heap.get?_push_size _ rfl))
  rw [z1, z2] at g3
  rw [z1] at g2
  show _ ∧ _
  rw [z2]
  exact ⟨⟨_, g3, rfl⟩, h _ g3 g2 ⟨_, g1, rfl, rfl⟩ z3 fun c o x => Heap.get?_push_of_some _ (Heap.get?_push_of_some _ (Heap.get?_push_of_some _ x))⟩

theorem pyIter_map {z T : Addr} {f : Value} {Q : Value → Shared → Prop} (hz : IsMap s.heap z T f) (h : Q (.ref z) s) : wpAny (model prog w) A (pyIter (.ref z)) Q E s := by
  have hT : s.TypeIs (.ref z) "map" := ⟨_, hz, rfl⟩
  refine wpAny_pyIter_slot hT slot_map_iter (wpAny_call_entry slot_map_iter hT entry_map_iter ?_ (args_map_iter _))
  show wpAny _ _ (ret (.ref z)) _ _ s
  exact wpAny_pure ⟨_, rfl, "map", _, hT, slot_map_next.lookup, h⟩

/-- one step of a map object: the item is taken, the function called on it -/
theorem pyNext_map_item {z T I l : Addr} {f : Value} {i : Nat} {xs : Array Value} {x : Value} {Q : Option Value → Shared → Prop}
    (hz : IsMap s.heap z T f) (hT : IsOne s.heap T (.ref I)) (hI : s.heap.IsListIter I l i) (hl : s.heap.IsList l xs) (hx : xs[i]? = some x) (hne : z ≠ I)
    (hQ : ∀ h', h'.IsListIter I l (i + 1) → Heap.SameBut I s.heap h' → wpAny (model prog w) A.in1 (call f [x]) (fun v s' => Q (some v) s') (fun _ _ => False) { s with heap := h' }) :
    wpAny (model prog w) A (pyNext (.ref z)) Q E s := by
  have hTy : s.TypeIs (.ref z) "map" := ⟨_, hz, rfl⟩
  unfold pyNext
  refine wpAny_bind (wpAny_attempt (wpAny_callSpecial?_slot (name := Str.ofString "__next__") hTy slot_map_next
    (wpAny_call_entry slot_map_next hTy entry_map_next ?_ (args_map_next _))))
  show wpAny _ _ (field (.ref z) 0 >>= _) _ _ _
  refine wpAny_bind (wpAny_field hz rfl (x := .ref T) rfl ?_)
  refine wpAny_bind (wpAny_seqItems hT rfl ?_)
  simp only [List.forIn_toArray, List.forIn_cons, List.forIn_nil]
  refine wpAny_bind (wpAny_bind (wpAny_bind (wpAny_holding (wpAny_nextOf_list_item hI hl hx fun h₁ hI₁ hs₁ => wpAny_pure (wpAny_pure ?_)))))
  have hz₁ : IsMap h₁ z T f := (hs₁.2 z hne).trans hz
  refine wpAny_bind (wpAny_field hz₁ rfl (x := f) rfl ?_)
  refine wpAny_bind (wpAny_holding ?_)
  refine wpAny_mono (hQ h₁ hI₁ hs₁) (fun v s' hv => ?_) (fun _ _ hf => hf.elim)
  exact wpAny_bind (wpAny_letGo (wpAny_pure ⟨_, rfl, wpAny_pure hv⟩))

theorem pyNext_map_end {z T I l : Addr} {f : Value} {i : Nat} {xs : Array Value} {Q : Option Value → Shared → Prop} (hh : A.handled = none)
    (hz : IsMap s.heap z T f) (hT : IsOne s.heap T (.ref I)) (hI : s.heap.IsListIter I l i) (hl : s.heap.IsList l xs) (hx : xs[i]? = none)
    (hQ : ∀ h', (∀ c o, c ≠ I → s.heap.get? c = some o → h'.get? c = some o) → Q none { s with heap := h' }) :
    wpAny (model prog w) A (pyNext (.ref z)) Q E s := by
  have hTy : s.TypeIs (.ref z) "map" := ⟨_, hz, rfl⟩
  unfold pyNext
  refine wpAny_bind (wpAny_attempt (wpAny_callSpecial?_slot (name := Str.ofString "__next__") hTy slot_map_next
    (wpAny_call_entry slot_map_next hTy entry_map_next ?_ (args_map_next _))))
  show wpAny _ _ (field (.ref z) 0 >>= _) _ _ _
  refine wpAny_bind (wpAny_field hz rfl (x := .ref T) rfl ?_)
  refine wpAny_bind (wpAny_seqItems hT rfl ?_)
  simp only [List.forIn_toArray, List.forIn_cons, List.forIn_nil]
  refine wpAny_bind (wpAny_bind (wpAny_bind (wpAny_holding (wpAny_nextOf_list_end hh hI hl hx fun h₁ e hk he => ?_))))
  obtain ⟨o, ho, hc⟩ := he
  refine wpAny_bind (wpAny_isInstance (T := "StopIteration") (b := true) ⟨o, ho, hc⟩ isSubtype_stop ?_)
  exact wpAny_pure (hQ _ fun c o hc e => hk c o hc e)
end
end Mine
end

/-! MapB -/
section
open PySem PySem.W PyProof.Rows
namespace Mine
set_option maxRecDepth 100000

/-- the walk of a map object whose function is int, over texts that int reads -/
structure MapApart (z T I l : Addr) : Prop where
  zI : z ≠ I
  TI : T ≠ I
  lI : l ≠ I

section
variable {prog : Program} {w : World} {A : Around} {E : Value → Shared → Prop} {s : Shared}

def mapSt (z T I l : Addr) (f : Value) (xs : Array Value) (i : Nat) (h : Heap) : Prop :=
  IsMap h z T f ∧ IsOne h T (.ref I) ∧ h.IsListIter I l i ∧ h.IsList l xs

theorem walksMap (hh : A.handled = none) (z T I l : Addr) (D : MapApart z T I l) (l' : List (Str × Tok)) (ns : List Int)
    (hlen : l'.length = ns.length) (hr : ∀ (j : Nat) (x : Str) (n : Int), (l'.map (·.1))[j]? = some x → ns[j]? = some n → PySem.intText? x = some n ∧ x.length ≤ 640) :
    Walks prog w A z [z, T, I, l] [I] ns.length (fun i v => ∃ n t, ns[i]? = some n ∧ v = .int n t) (mapSt z T I l (.type "int") (strValues l').toArray) where
  sub := fun c hc => by rw [List.mem_singleton] at hc; rw [hc]; simp
  frame := fun i h h' st hk => by
    obtain ⟨a, b, c, d⟩ := st
    exact ⟨hk z (by simp) _ a, hk T (by simp) _ b, c.at fun o e => hk I (by simp) o e, d.at fun o e => hk l (by simp) o e⟩
  item := fun i s Q E hi st hQ => by
    obtain ⟨a, b, c, d⟩ := st
    have hi' : i < l'.length := hlen ▸ hi
    have hx : (strValues l').toArray[i]? = some (.str l'[i].1 l'[i].2) := by simp [strValues, hi']
    have hn : ns[i]? = some ns[i] := by simp [hi]
    have hq := hr i l'[i].1 ns[i] (by simp [hi']) hn
    refine pyNext_map_item a b c d hx D.zI fun h' c' hs' => ?_
    refine KIN.call_text hq.1 hq.2 ?_
    exact hQ _ h' _ ⟨ns[i], _, hn, rfl⟩ ⟨hs'.extBut _ _ D.zI a, hs'.extBut _ _ D.TI b, c', d.extBut hs'.extBut D.lI⟩ fun b o hb e => hs'.extBut b o (fun q => hb (by simp [q])) e
  done := fun s Q E st hQ => by
    obtain ⟨a, b, c, d⟩ := st
    refine pyNext_map_end hh a b c d (by simp [strValues, hlen]) fun h' hk => ?_
    exact hQ h' s.toks fun c o hc e => hk c o (fun q => hc (by simp [q])) e
  self := fun i s Q E st hQ => pyIter_map st.1 hQ

/-! list of an iterator that has neither a length nor a hint -/
variable {R : Result → Shared → Prop} {I : Addr} {fp wr : List Addr} {G : Array GenState → Array GenState → Prop} {n : Nat} {P : Nat → Value → Prop} {St : Nat → Shared → Prop}

theorem extend_map (W : WalksS prog w A.in1 I fp wr G n P St) (hT : ∀ i s, St i s → s.TypeIs (.ref I) "map") (S : Addr) (res : Value) (c₀ : Nat) (hst : St 0 s) (hSf : S ∉ fp) (hI : I ∈ fp)
    (hS : s.heap.get? S = some { cls := .type "list", data := .seq #[] c₀ })
    (hR : ∀ s' acc' c', Moved (S :: wr) G s s' → s'.heap.get? S = some { cls := .type "list", dict := none, data := .seq acc' c', slots := #[] } → ItemsOf P acc' n → R (.ok (.ret res)) s') (hn : n ≤ sizeLine) :
    wpAny (model prog w) A.in1 (Builtin.List.listExtendWith (.ref S) (.ref I) res)
      (fun fin s' => match fin with | .done f => R (.ok f) s' | .again c' => c'.quiet = true ∧ codeAny (model prog w) A c' R s') (fun e s' => R (.error e) s') s := by
  have hSI : S ≠ I := fun e => hSf (e ▸ hI)
  unfold Builtin.List.listExtendWith
  refine wpAny_bind (wpAny_typeOf (hT 0 _ hst) ?_)
  have h1 : Builtin.List.listSameRef (.ref S) (.ref I) = false := by simp [Builtin.List.listSameRef, hSI]
  have h2 : (Value.type "map" == Value.type "list") = false := by decide
  have h3 : (Value.type "map" == Value.type "tuple") = false := by decide
  simp only [h1, h2, h3, Bool.or_false, Bool.false_eq_true, if_false]
  refine wpAny_bind (W.self 0 _ _ _ hst ?_)
  refine wpAny_bind (wpAny_holding ?_)
  unfold Builtin.List.listLengthHint
  refine wpAny_bind (wpAny_specialOf (hT 0 _ hst) map_no_len ?_)
  show wpAny _ A.in1 (specialOf (Value.ref I) (Str.ofString "__length_hint__") >>= _) _ _ _
  refine wpAny_bind (wpAny_specialOf (hT 0 _ hst) map_no_hint ?_)
  refine wpAny_pure ?_
  show wpAny _ A.in1 (rule "list.extend.makes-room" >>= fun _ => Builtin.List.listTouch (.ref S) >>= fun _ =>
    again (.builtin "list.extend.loop" ⟨[.ref S, .ref I, res], []⟩)) _ _ _
  refine wpAny_bind (wpAny_rule ?_)
  refine wpAny_bind ?_
  show wpAny _ A.in1 (updateSeq S (·.push .none) >>= fun _ => updateSeq S (·.pop)) _ _ _
  refine wpAny_bind (wpAny_updateSeq hS rfl ?_)
  have hS₂ := Heap.get?_update_self (Obj.mapSeq (·.push Value.none)) hS rfl
  refine wpAny_updateSeq (hz := by seq_fits) hS₂ rfl ?_
  have hS₃ := Heap.get?_update_self (Obj.mapSeq (·.pop)) hS₂ rfl
  have oth : ∀ b o, b ≠ S → s.heap.get? b = some o → ((s.heap.update S (Obj.mapSeq (·.push Value.none))).update S (Obj.mapSeq (·.pop))).get? b = some o :=
    fun b o hb e => (Heap.get?_update_other _ _ (Ne.symm hb)).trans ((Heap.get?_update_other _ _ (Ne.symm hb)).trans e)
  refine wpAny_pure ⟨plainId_quiet F.plain_extend_loop _, codeAny_extend_loopS W hn _ hSf _ n 0 _ _ _ rfl (Nat.zero_le _)
    (W.frame 0 s _ s.toks hst (Nat.le_refl _) fun b hb o e => oth b o (fun h => hSf (h ▸ hb)) e) hS₃ (ItemsOf.nil P) fun s' acc' c' hm hS' hacc => ?_⟩
  exact hR s' acc' c' (Moved.trans W.gtrans ((Moved.refl W.grefl).then_heap (Nat.le_refl _) fun b o hb e => oth b o (fun h => hb (h ▸ List.mem_cons_self)) e) hm) hS' hacc

theorem init_map (W : WalksS prog w A.in1 I fp wr G n P St) (hT : ∀ i s, St i s → s.TypeIs (.ref I) "map") (S : Addr) (hst : St 0 s) (hSf : S ∉ fp) (hI : I ∈ fp)
    (hS : s.heap.get? S = some { cls := .type "list", data := .seq #[] })
    (hR : ∀ s' acc' c', Moved (S :: wr) G s s' → s'.heap.get? S = some { cls := .type "list", dict := none, data := .seq acc' c', slots := #[] } → ItemsOf P acc' n → R (.ok (.ret .none)) s') (hn : n ≤ sizeLine) :
    wpAny (model prog w) A.in1 (Builtin.«list.__init__» ⟨[.ref S, .ref I], []⟩)
      (fun fin s' => match fin with | .done f => R (.ok f) s' | .again c' => c'.quiet = true ∧ codeAny (model prog w) A c' R s') (fun e s' => R (.error e) s') s := by
  show wpAny _ A.in1 (do let old ← Builtin.List.listItems (.ref S); Builtin.List.listUpdate (.ref S) (fun _ => #[]); letGo old.toList.reverse; Builtin.List.listExtendWith (.ref S) (.ref I) .none) _ _ s
  refine wpAny_bind ?_
  unfold Builtin.List.listItems
  refine wpAny_bind (wpAny_seqItems hS rfl (wpAny_pure ?_))
  show wpAny _ A.in1 (updateSeq S (fun _ => #[]) >>= fun _ => letGo (#[] : Array Value).toList.reverse >>= fun _ => Builtin.List.listExtendWith (.ref S) (.ref I) .none) _ _ s
  refine wpAny_bind (wpAny_updateSeq hS rfl ?_)
  have hS₂ := Heap.get?_update_self (Obj.mapSeq (fun _ => (#[] : Array Value))) hS rfl
  have oth : ∀ b o, b ≠ S → s.heap.get? b = some o → (s.heap.update S (Obj.mapSeq (fun _ => (#[] : Array Value)))).get? b = some o :=
    fun b o hb e => (Heap.get?_update_other _ _ (Ne.symm hb)).trans e
  refine wpAny_bind (wpAny_letGo ?_)
  refine extend_map (hn := hn) W hT S .none _ (W.frame 0 s _ s.toks hst (Nat.le_refl _) fun b hb o e => oth b o (fun h => hSf (h ▸ hb)) e) hSf hI hS₂ fun s' acc' c' hm hS' hacc => ?_
  exact hR s' acc' c' (Moved.trans W.gtrans ((Moved.refl W.grefl).then_heap (Nat.le_refl _) fun b o hb e => oth b o (fun h => hb (h ▸ List.mem_cons_self)) e) hm) hS' hacc

theorem call_list_map {Q : Value → Shared → Prop} (W : WalksS prog w A.in1.in1 I fp wr G n P St) (hT : ∀ i s, St i s → s.TypeIs (.ref I) "map") (hst : St 0 s) (hfp : ∀ b ∈ fp, b < s.heap.objs.size) (hI : I ∈ fp)
    (hQ : ∀ s' acc' c', Moved (s.heap.objs.size :: wr) G { s with heap := s.heap.push { cls := .type "list", data := .seq #[] } } s' →
      s'.heap.get? s.heap.objs.size = some { cls := .type "list", dict := none, data := .seq acc' c', slots := #[] } → ItemsOf P acc' n → Q (.ref s.heap.objs.size) s') (hn : n ≤ sizeLine) :
    wpAny (model prog w) A (call (.type "list") [.ref I]) Q E s := by
  have hSf : s.heap.objs.size ∉ fp := fun hm => Nat.lt_irrefl _ (hfp _ hm)
  refine callType_codes (Q₁ := fun obj s₁ => obj = .ref s.heap.objs.size ∧ s₁ = { s with heap := s.heap.push { cls := .type "list", data := .seq #[] } }) F.called_list (F.typeCall_list_1 _) F.entry_list_init
    (code_list_new _ ⟨rfl, rfl⟩) fun obj s₁ h₁ => ?_
  obtain ⟨rfl, rfl⟩ := h₁
  have hS : (s.heap.push { cls := .type "list", data := .seq #[] }).get? s.heap.objs.size = some { cls := .type "list", data := .seq #[] } := Heap.get?_push_size _ rfl
  refine ⟨⟨_, hS, rfl⟩, F.args_list_init_2 _ _, init_map (hn := hn) W hT _ (W.frame 0 s _ s.toks hst (Nat.le_refl _) fun b _ o e => Heap.get?_push_of_some _ e) hSf hI hS fun s' acc' c' hm hS' hacc => ?_⟩
  exact ⟨rfl, hQ s' acc' c' hm hS' hacc⟩
end

theorem intsAre_of_items {acc : Array Value} {ns : List Int} (h : ItemsOf (fun i v => ∃ n t, ns[i]? = some n ∧ v = Value.int n t) acc ns.length) : IntsAre acc.toList ns := by
  obtain ⟨hs, hv⟩ := h
  have key : ∀ (l : List Value) (ns : List Int), l.length = ns.length → (∀ (j : Nat) (v : Value), l[j]? = some v → ∃ n t, ns[j]? = some n ∧ v = Value.int n t) → IntsAre l ns := by
    intro l
    induction l with
    | nil => intro ns hl _; cases ns with | nil => exact .nil | cons n r => simp at hl
    | cons v l ih =>
      intro ns hl h
      cases ns with
      | nil => simp at hl
      | cons n r =>
        obtain ⟨n', t, e1, e2⟩ := h 0 v rfl
        simp at e1
        subst e1 e2
        exact .cons _ _ (ih r (by simpa using hl) fun j v e => by simpa using h (j + 1) v (by simpa using e))
  refine key acc.toList ns (by simpa using hs) fun j v e => hv j v (by simpa using e)

section
variable {prog : Program} {w : World} {A : Around} {E : Value → Shared → Prop} {s : Shared} {h₀ : Heap} {L : Addr} {m : Str → Option Value} {news : List (Addr × Obj)} {Q : Value → Shared → Prop}

abbrev mapObj (T : Addr) : Obj := { cls := .type "map", dict := none, data := .fields #[.ref T, .type "int"], slots := #[] }
abbrev oneObj (v : Value) : Obj := { cls := .type "tuple", data := .seq #[v] }

theorem next_fresh {h : Heap} (F : Fr h₀ L h m) {a : Addr} (ha : h.objs.size ≤ a) : a ≠ L ∧ h₀.get? a = none := by
  refine ⟨fun e => ?_, ?_⟩
  · have := F.ns.lt; rw [← e] at this; exact absurd this (Nat.not_lt.mpr ha)
  · cases q : h₀.get? a with
    | none => rfl
    | some o => exact absurd (Heap.lt_size (F.keep _ _ q)) (Nat.not_lt.mpr ha)

/-- map(int, l), l a list of the ledger -/
theorem map_N {l : Addr} {xs : List Value} {k : Nat} (F : Fr h₀ L s.heap m) (N : News h₀ L s.heap news) (hl : (l, listOf xs.toArray k) ∈ news)
    (h : ∀ z T I h' oI, Fr h₀ L h' m → News h₀ L h' ((z, mapObj T) :: (T, oneObj (.ref I)) :: (I, oI) :: news) → oI.cls = .type "list_iterator" ∧ oI.data = .fields #[.ref l, .int 0 0] → z ≠ I → T ≠ I → (∀ p ∈ news, p.1 ≠ I) → Q (.ref z) { s with heap := h' }) :
    wpAny (model prog w) A (call (.type "map") [.type "int", .ref l]) Q E s := by
  have hL : s.heap.IsList l xs.toArray := ⟨_, (N _ hl).1, rfl, k, rfl⟩
  refine call_map_list hL fun h' a b c hz hk => ?_
  obtain ⟨oI, e, hc, hd⟩ := c
  have f1 := next_fresh F (Nat.le_refl _)
  have f2 := next_fresh F (Nat.le_succ s.heap.objs.size)
  have f3 := next_fresh F (Nat.le_add_right s.heap.objs.size 2)
  refine h _ _ _ h' oI (F.keeps hk) ?_ ⟨hc, hd⟩ (by show s.heap.objs.size + 2 ≠ s.heap.objs.size; omega) (by show s.heap.objs.size + 1 ≠ s.heap.objs.size; omega) fun p hp => Nat.ne_of_lt (Heap.lt_size (N p hp).1)
  intro p hp
  rcases List.mem_cons.mp hp with rfl | hp
  · exact ⟨a, f3⟩
  · rcases List.mem_cons.mp hp with rfl | hp
    · exact ⟨b, f2⟩
    · rcases List.mem_cons.mp hp with rfl | hp
      · exact ⟨e, f1⟩
      · exact ⟨hk _ _ (N p hp).1, (N p hp).2⟩

/-- list(map(int, texts)): a new list of the ints that the texts tell -/
theorem list_map_N {z T I l : Addr} {l' : List (Str × Tok)} {k : Nat} {oI : Obj} {ns : List Int} (hh : A.handled = none) (F : Fr h₀ L s.heap m)
    (N : News h₀ L s.heap ((z, mapObj T) :: (T, oneObj (.ref I)) :: (I, oI) :: news)) (hI : oI.cls = .type "list_iterator" ∧ oI.data = .fields #[.ref l, .int 0 0]) (hzI : z ≠ I) (hTI : T ≠ I) (hnI : ∀ p ∈ news, p.1 ≠ I)
    (hl : (l, listOf (strValues l').toArray k) ∈ news)
    (hlen : l'.length = ns.length) (hr : ∀ (j : Nat) (x : Str) (n : Int), (l'.map (·.1))[j]? = some x → ns[j]? = some n → PySem.intText? x = some n ∧ x.length ≤ 640) (hsz : ns.length ≤ sizeLine)
    (h : ∀ D vs c h' tk, Fr h₀ L h' m → News h₀ L h' ((D, listOf vs.toArray c) :: news) → IntsAre vs ns → (∀ p ∈ news, p.1 < D) → Q (.ref D) { s with heap := h', toks := tk }) :
    wpAny (model prog w) A (call (.type "list") [.ref z]) Q E s := by
  have nz := N (z, mapObj T) (by simp)
  have nT := N (T, oneObj (.ref I)) (by simp)
  have nI := N (I, oI) (by simp)
  have nl := N (l, listOf (strValues l').toArray k) (by simp [hl])
  have hst : mapSt z T I l (.type "int") (strValues l').toArray 0 s.heap := ⟨nz.1, nT.1, ⟨oI, nI.1, hI.1, hI.2⟩, ⟨_, nl.1, rfl, k, rfl⟩⟩
  have D : MapApart z T I l := ⟨hzI, hTI, hnI _ hl⟩
  have W := walksMap (prog := prog) (w := w) (A := A.in1.in1) hh z T I l D l' ns hlen hr
  refine call_list_map W.toS (fun i s st => ⟨_, st.1, rfl⟩) hst ?_ (by simp) (fun s' acc' c' hm hS' hacc => ?_) hsz
  · intro b hb
    simp at hb
    rcases hb with rfl | rfl | rfl | rfl
    · exact Heap.lt_size nz.1
    · exact Heap.lt_size nT.1
    · exact Heap.lt_size nI.1
    · exact Heap.lt_size nl.1
  · obtain ⟨mh, mg, md, mo, mt⟩ := hm
    obtain ⟨hp', g', d', tk', os'⟩ := s'
    dsimp only at mh mg md mo mt hS'
    subst mg md mo
    have old : ∀ b o, b ≠ I → s.heap.get? b = some o → hp'.get? b = some o := fun b o hb e => mh b o (by
      intro q
      rcases List.mem_cons.mp q with q | q
      · rw [q] at e; exact absurd (Heap.lt_size e) (Nat.lt_irrefl _)
      · exact hb (List.mem_singleton.mp q)) (Heap.get?_push_of_some _ e)
    obtain ⟨oL, es, ep, hL, r⟩ := F.ns
    have f1 := next_fresh F (Nat.le_refl _)
    refine h _ acc'.toList c' hp' tk' ⟨⟨oL, es, ep, old L oL (Ne.symm nI.2.1) hL, r⟩, fun b o e => old b o (fun q => by rw [q, nI.2.2] at e; cases e) (F.keep b o e), F.above⟩ ?_ (intsAre_of_items hacc) fun p hp => Heap.lt_size (N p (by simp [hp])).1
    intro p hp
    rcases List.mem_cons.mp hp with rfl | hp
    · exact ⟨by simpa using hS', f1⟩
    · have q := N p (by simp [hp])
      exact ⟨old _ _ (hnI p hp) q.1, q.2⟩
end
end Mine
end

/-! EnumW -/
section
open PySem PySem.W PyProof.Rows
namespace Mine
set_option maxRecDepth 100000

/-- a turn's end: the frame turned at names xs alone, the ledger kept -/
def TurnEnd (h₀ : Heap) (L : Addr) (keep : List (Addr × Obj)) (xs : List Str) (m : Str → Option Value) (PRE : Prop) (s₁ s₂ : Shared) : Prop :=
  ∃ h' tk m' news', s₂ = { s₁ with heap := h', toks := tk } ∧ Fr h₀ L h' m' ∧ News h₀ L h' news' ∧ (∀ p ∈ keep, p ∈ news') ∧ (∀ y, y ∉ xs → m' y = m y) ∧ PRE

theorem TurnEnd.intro {h₀ : Heap} {L : Addr} {keep news' : List (Addr × Obj)} {xs : List Str} {m m' : Str → Option Value} {PRE : Prop} {s₁ : Shared} {h' : Heap} {tk : Nat}
    (F : Fr h₀ L h' m') (N : News h₀ L h' news') (hk : ∀ p ∈ keep, p ∈ news') (hm : ∀ y, y ∉ xs → m' y = m y) (hp : PRE) : TurnEnd h₀ L keep xs m PRE s₁ { s₁ with heap := h', toks := tk } :=
  ⟨h', tk, m', news', rfl, F, N, hk, hm, hp⟩

section
variable {prog : Program} {w : World} {A : Around} {E : Value → Shared → Prop} {s : Shared} {env : Env} {h₀ : Heap} {m : Str → Option Value} {news : List (Addr × Obj)} {Q : Flow → Shared → Prop}

theorem enum_walk {l : Addr} {vs : List Value} {c : Nat} {xi xc : Str} {body : List Stmt} (PRE : Nat → Prop)
    (hh : A.handled = none) (hl : (l, listOf vs.toArray c) ∈ news) (F : Fr h₀ env.locals s.heap m) (N : News h₀ env.locals s.heap news) (h0 : PRE 0)
    (turn : ∀ (i : Nat) v t h tk own, vs[i]? = some v → PRE i → Fr h₀ env.locals h (fun y => if y = xc then some v else if y = xi then some (.int i t) else m y) → News h₀ env.locals h (news ++ own) →
      wpAny (model prog w) A (execs body env) (fun f s' => match f with
        | .ret v => Q (.ret v) s'
        | .next => TurnEnd h₀ env.locals (news ++ own) [xc, xi] m (PRE (i + 1)) { s with heap := h, toks := tk } s'
        | _ => False) E { s with heap := h, toks := tk })
    (done : ∀ h' tk (u : Str → Option Value), PRE vs.length → Fr h₀ env.locals h' (fun y => if y = xc then u y else if y = xi then u y else m y) → News h₀ env.locals h' news → Q .next { s with heap := h', toks := tk }) :
    wpAny (model prog w) A (call (.type "enumerate") [.ref l]) (fun xv s₁ => wpAny (model prog w) A (pyIter xv) (fun it s₂ => PairAt3 prog w A h₀ env xi xc body Q E it s₂) E s₁) E s := by
  have hls : s.heap.IsList l vs.toArray := ⟨_, (N _ hl).1, rfl, c, rfl⟩
  have hlt : l < s.heap.objs.size := Heap.lt_size (N _ hl).1
  refine call_enumerate_list hls fun h' he hit hsz hk => ?_
  have F' : Fr h₀ env.locals h' m := F.keeps hk
  have N' : News h₀ env.locals h' news := fun p hp => ⟨hk _ _ (N p hp).1, (N p hp).2⟩
  have f1 := next_fresh F (Nat.le_refl _)
  have f2 := next_fresh F (Nat.le_succ s.heap.objs.size)
  have l1 : l ≠ s.heap.objs.size := Nat.ne_of_lt hlt
  have l2 : l ≠ s.heap.objs.size + 1 := Nat.ne_of_lt (Nat.lt_succ_of_lt hlt)
  refine wpAny_pyIter_enum he ?_
  have W := WalksT.enumerate (prog := prog) (w := w) hh (s.heap.objs.size + 1) s.heap.objs.size l (Nat.succ_ne_self _) l2 l1 vs.toArray
  refine ⟨_, _, _, _, _, _, _, (fun i v0 v1 => ∃ t, v0 = Value.int i t ∧ vs[i]? = some v1), m, news, (fun i m₁ nx => nx = news ∧ (∀ y, y ∉ [xc, xi] → m₁ y = m y) ∧ PRE i), rfl, W, ?_, ?_, ?_, ?_, ⟨⟨_, by simpa using he⟩, hit, hls.at fun o e => hk _ _ e⟩, F', N', ⟨rfl, fun _ _ => rfl, h0⟩, ?_, ?_⟩
  · rintro i vals ⟨t, x, hx, rfl⟩
    exact ⟨_, _, rfl, t, rfl, by simpa using hx⟩
  · intro hm
    simp only [List.mem_cons, List.not_mem_nil, or_false] at hm
    rcases hm with e | e | e
    · exact f2.1 e.symm
    · exact f1.1 e.symm
    · exact (N _ hl).2.1 e.symm
  · intro b hb
    simp only [List.mem_cons, List.not_mem_nil, or_false] at hb
    rcases hb with rfl | rfl
    · exact f2.2
    · exact f1.2
  · intro p hp hb
    have hp1 : p.1 < s.heap.objs.size := Heap.lt_size (N p hp).1
    simp only [List.mem_cons, List.not_mem_nil, or_false] at hb
    rcases hb with e | e
    · exact Nat.ne_of_lt (Nat.lt_succ_of_lt hp1) e
    · exact Nat.ne_of_lt hp1 e
  · rintro i v0 v1 m₁ news₁ s₁ own ⟨h₁, tk₁, rfl⟩ _ ⟨t, rfl, hv⟩ ⟨rfl, hm, hp⟩ _ _ F₁ N₁
    have em : (fun y => if y = xc then some v1 else if y = xi then some (Value.int i t) else m₁ y) = fun y => if y = xc then some v1 else if y = xi then some (Value.int i t) else m y := by
      funext y
      by_cases h1 : y = xc
      · simp [h1]
      · by_cases h2 : y = xi
        · simp [h2]
        · simp only [h1, h2, if_false]; exact hm y (by simp [h1, h2])
    rw [em] at F₁
    refine wpAny_mono (turn i v1 t h₁ tk₁ own hv hp F₁ fun p hp => N₁ p ((List.mem_append.mp hp).elim (fun h => List.mem_append.mpr (.inr h)) fun h => List.mem_append.mpr (.inl h))) (fun f s₂ hf => ?_) fun _ _ e => e
    cases f with
    | ret v => exact hf
    | next =>
      obtain ⟨h₂, tk₂, m₂, news₂, rfl, F₂, N₂, hkp, hm₂, hp₂⟩ := hf
      refine ⟨rfl, h₂, tk₂, m₂, _, rfl, F₂, fun p hp => N₂ p (hkp p ?_), rfl, rfl, hm₂, hp₂⟩
      exact (List.mem_append.mp hp).elim (fun h => List.mem_append.mpr (.inr h)) fun h => List.mem_append.mpr (.inl h)
    | brk => exact hf.elim
    | cont => exact hf.elim
  · rintro h₁ tk₁ m₁ news₁ F₁ N₁ _ ⟨rfl, hm, hp⟩
    have em : (fun y => if y = xc then m₁ y else if y = xi then m₁ y else m y) = m₁ := by
      funext y
      by_cases h1 : y = xc
      · simp [h1]
      · by_cases h2 : y = xi
        · simp [h2]
        · simp only [h1, h2, if_false]; exact (hm y (by simp [h1, h2])).symm
    exact done h₁ tk₁ m₁ (by simpa using hp) (by rw [em]; exact F₁) N₁
end
end Mine
end

/-! CmpL -/
section
open PySem PySem.W PyProof.Rows
namespace Mine
set_option maxRecDepth 100000

/-! the plain law of compare_versions -/
noncomputable def cmpL : List Int → List Int → Int
  | x :: xs, y :: ys => if y < x then -1 else if x < y then 1 else cmpL xs ys
  | _, _ => 0

theorem cmpL_drop : ∀ (i : Nat) (a b : List Int), a.take i = b.take i → i ≤ a.length → i ≤ b.length → cmpL a b = cmpL (a.drop i) (b.drop i) := by
  intro i
  induction i with
  | zero => intro a b _ _ _; rfl
  | succ i ih =>
    intro a b h ha hb
    cases a with
    | nil => simp at ha
    | cons x xs =>
      cases b with
      | nil => simp at hb
      | cons y ys =>
        simp only [List.take_succ_cons, List.cons.injEq] at h
        obtain ⟨rfl, h⟩ := h
        have := ih xs ys h (by simpa using ha) (by simpa using hb)
        simp only [cmpL, Int.lt_irrefl, if_false, List.drop_succ_cons]
        exact this

theorem drop_getD {a : List Int} {i : Nat} (h : i < a.length) : a.drop i = a.getD ((i : Int)).toNat 0 :: a.drop (i + 1) := by
  rw [Int.toNat_natCast, List.drop_eq_getElem_cons h]
  simp [List.getD_eq_getElem?_getD, h]

theorem cmpL_gt {a b : List Int} {i : Nat} (h : a.take i = b.take i) (ha : i < a.length) (hb : i < b.length) (hc : b.getD ((i : Int)).toNat 0 < a.getD ((i : Int)).toNat 0) : cmpL a b = -1 := by
  rw [cmpL_drop i a b h (Nat.le_of_lt ha) (Nat.le_of_lt hb), drop_getD ha, drop_getD hb]
  simp only [cmpL, hc, if_true]
theorem cmpL_lt {a b : List Int} {i : Nat} (h : a.take i = b.take i) (ha : i < a.length) (hb : i < b.length) (hc : a.getD ((i : Int)).toNat 0 < b.getD ((i : Int)).toNat 0) : cmpL a b = 1 := by
  rw [cmpL_drop i a b h (Nat.le_of_lt ha) (Nat.le_of_lt hb), drop_getD ha, drop_getD hb]
  simp only [cmpL, hc, if_true, if_neg (show ¬ b.getD ((i : Int)).toNat 0 < a.getD ((i : Int)).toNat 0 by omega)]
theorem take_step {a b : List Int} {i : Nat} (h : a.take i = b.take i) (ha : i < a.length) (hb : i < b.length) (h1 : ¬ b.getD ((i : Int)).toNat 0 < a.getD ((i : Int)).toNat 0) (h2 : ¬ a.getD ((i : Int)).toNat 0 < b.getD ((i : Int)).toNat 0) :
    a.take (i + 1) = b.take (i + 1) := by
  have e : a.getD ((i : Int)).toNat 0 = b.getD ((i : Int)).toNat 0 := by omega
  rw [Int.toNat_natCast, List.getD_eq_getElem?_getD, List.getD_eq_getElem?_getD] at e
  rw [List.getElem?_eq_getElem ha, List.getElem?_eq_getElem hb] at e
  rw [List.take_add_one, List.take_add_one, h, List.getElem?_eq_getElem ha, List.getElem?_eq_getElem hb]
  exact congrArg (fun z => List.take i b ++ [z]) e
theorem cmpL_same {a b : List Int} (h : a.take a.length = b.take a.length) (l : a.length = b.length) : cmpL a b = 0 := by
  rw [cmpL_drop a.length a b h (Nat.le_refl _) (Nat.le_of_eq l), List.drop_length]
  simp [cmpL]

def padTo (n : Nat) (a : List Int) : List Int := a ++ List.replicate (n - a.length) 0
def numsV (v : PySem.Str) : List Int := (Txt.split v (PySem.Str.ofString ".")).map fun t => (PySem.intText? t).getD 0
def okV (v : PySem.Str) : Prop := v.length ≤ 600 ∧ ∀ t ∈ Txt.split v (PySem.Str.ofString "."), (PySem.intText? t).isSome = true
noncomputable def cmpV (v1 v2 : PySem.Str) : Int := cmpL (padTo (numsV v2).length (numsV v1)) (padTo (numsV v1).length (numsV v2))

structure Vs (v1 v2 : PySem.Str) : Prop where
  one : okV v1
  two : okV v2
structure Ready (v1 v2 : PySem.Str) (a b : List Int) : Prop where
  len : a.length = b.length
  cmp : cmpL a b = cmpV v1 v2
  small : a.length ≤ 601

theorem okV.size {v : PySem.Str} (h : okV v) : v.length + 2 ≤ sizeLine := by rw [sizeLine_eq]; have := h.1; omega
theorem numsV_len (v : PySem.Str) : (numsV v).length = (Txt.split v (PySem.Str.ofString ".")).length := by simp [numsV]
theorem okV.len {v : PySem.Str} (h : okV v) : (numsV v).length ≤ 601 := by
  have hw := split_weight v (PySem.Str.ofString ".") (by decide)
  have := h.1
  rw [numsV_len]
  omega
theorem okV.lenI {v : PySem.Str} {vs : List Value} (h : okV v) (i₀ : IntsAre vs (numsV v)) : (numsV v).length ≤ 601 := h.len
theorem okV.reads {v : PySem.Str} {l : List (Str × Tok)} (h : okV v) (e : l.map (·.1) = Txt.split v (PySem.Str.ofString ".")) :
    l.length = (numsV v).length ∧ (∀ (j : Nat) (x : Str) (n : Int), (l.map (·.1))[j]? = some x → (numsV v)[j]? = some n → PySem.intText? x = some n ∧ x.length ≤ 640) ∧ (numsV v).length ≤ sizeLine := by
  refine ⟨?_, ?_, ?_⟩
  · rw [numsV_len, ← e, List.length_map]
  · intro j x n hx hn
    rw [e] at hx
    have hm : x ∈ Txt.split v (PySem.Str.ofString ".") := List.mem_of_getElem? hx
    have h1 := h.2 x hm
    have h2 := part_short hm
    have h3 := h.1
    refine ⟨?_, by omega⟩
    rw [numsV, List.getElem?_map, hx] at hn
    obtain ⟨k, hk⟩ := Option.isSome_iff_exists.mp h1
    simp only [Option.map_some, hk, Option.getD_some] at hn
    rw [hk, hn]
  · have := h.len
    rw [sizeLine_eq]; omega

theorem readyA {v1 v2 : PySem.Str} {items : List Int} {k : Nat} (V : Vs v1 v2) (h : (numsV v2).length < (numsV v1).length) (e : items = numsV v2 ++ List.replicate k 0) (l : items.length = (numsV v1).length) : Ready v1 v2 (numsV v1) items := by
  refine ⟨l.symm, ?_, V.one.len⟩
  have hk : k = (numsV v1).length - (numsV v2).length := by rw [e, List.length_append, List.length_replicate] at l; omega
  unfold cmpV padTo
  rw [show (numsV v2).length - (numsV v1).length = 0 by omega, List.replicate_zero, List.append_nil, ← hk, e]
theorem readyB {v1 v2 : PySem.Str} {items : List Int} {k : Nat} (V : Vs v1 v2) (h : (numsV v1).length < (numsV v2).length) (e : items = numsV v1 ++ List.replicate k 0) (l : items.length = (numsV v2).length) : Ready v1 v2 items (numsV v2) := by
  refine ⟨l, ?_, l ▸ V.two.len⟩
  have hk : k = (numsV v2).length - (numsV v1).length := by rw [e, List.length_append, List.length_replicate] at l; omega
  unfold cmpV padTo
  rw [show (numsV v1).length - (numsV v2).length = 0 by omega, List.replicate_zero, List.append_nil, ← hk, e]
theorem readyC {v1 v2 : PySem.Str} (V : Vs v1 v2) (l : (numsV v1).length = (numsV v2).length) : Ready v1 v2 (numsV v1) (numsV v2) := by
  refine ⟨l, ?_, V.one.len⟩
  unfold cmpV padTo
  rw [show (numsV v1).length - (numsV v2).length = 0 by omega, show (numsV v2).length - (numsV v1).length = 0 by omega, List.replicate_zero, List.append_nil, List.append_nil]

theorem fin_gt {v1 v2 : PySem.Str} {a b : List Int} {i : Nat} (R : Ready v1 v2 a b) (h : a.take i = b.take i) (ha : i < a.length) (hb : i < b.length) (hc : b.getD ((i : Int)).toNat 0 < a.getD ((i : Int)).toNat 0) : (-1 : Int) = cmpV v1 v2 := by
  rw [← R.cmp, cmpL_gt h ha hb hc]
theorem fin_lt {v1 v2 : PySem.Str} {a b : List Int} {i : Nat} (R : Ready v1 v2 a b) (h : a.take i = b.take i) (ha : i < a.length) (hb : i < b.length) (hc : a.getD ((i : Int)).toNat 0 < b.getD ((i : Int)).toNat 0) : (1 : Int) = cmpV v1 v2 := by
  rw [← R.cmp, cmpL_lt h ha hb hc]
theorem fin_step {v1 v2 : PySem.Str} {a b : List Int} {i : Nat} (R₀ : Ready v1 v2 a b) (h : a.take i = b.take i) (ha : i < a.length) (hb : i < b.length) (h1 : ¬ b.getD ((i : Int)).toNat 0 < a.getD ((i : Int)).toNat 0) (h2 : ¬ a.getD ((i : Int)).toNat 0 < b.getD ((i : Int)).toNat 0) :
    a.take (i + 1) = b.take (i + 1) := take_step h ha hb h1 h2

theorem grow0 {C : Prop} {xs : List Int} (h : C) : C ∧ xs = xs ++ List.replicate ([] : List Int).length (0 : Int) ∧ xs.length = xs.length + ([] : List Int).length := ⟨h, by simp, by simp⟩
theorem grow1 {C : Prop} {xs pre items : List Int} {k : Int} (h : C) (e : items = xs ++ List.replicate pre.length (0 : Int)) (l : items.length = xs.length + pre.length) :
    C ∧ items ++ [0] = xs ++ List.replicate (pre ++ [k]).length (0 : Int) ∧ (items ++ [0]).length = xs.length + (pre ++ [k]).length := by
  refine ⟨h, ?_, ?_⟩
  · rw [e, List.length_append, List.length_singleton, List.replicate_succ', List.append_assoc]
  · simp only [List.length_append, List.length_singleton, l]; omega

section
variable {prog : Program} {w : World} {A : Around} {E : Value → Shared → Prop} {s : Shared} {env : Env} {h₀ : Heap} {m : Str → Option Value} {news : List (Addr × Obj)} {Q : Flow → Shared → Prop}

/-- the loop over the places of two lists of one length -/
theorem enum_cmp {v1 v2 : PySem.Str} {a b : List Int} {l : Addr} {va : List Value} {c : Nat} {xi xc : Str} {body : List Stmt} (R : Ready v1 v2 a b) (ia : IntsAre va a)
    (hh : A.handled = none) (hl : (l, listOf va.toArray c) ∈ news) (F : Fr h₀ env.locals s.heap m) (N : News h₀ env.locals s.heap news)
    (turn : ∀ (i : Nat) t t' h tk own, i < a.length → i < b.length → a.length ≤ 601 → a.take i = b.take i → Fr h₀ env.locals h (fun y => if y = xc then some (.int (a.getD i 0) t') else if y = xi then some (.int i t) else m y) → News h₀ env.locals h (news ++ own) →
      wpAny (model prog w) A (execs body env) (fun f s' => match f with
        | .ret v => Q (.ret v) s'
        | .next => TurnEnd h₀ env.locals (news ++ own) [xc, xi] m (a.take (i + 1) = b.take (i + 1)) { s with heap := h, toks := tk } s'
        | _ => False) E { s with heap := h, toks := tk })
    (done : ∀ h' tk (u : Str → Option Value), cmpV v1 v2 = 0 → Fr h₀ env.locals h' (fun y => if y = xc then u y else if y = xi then u y else m y) → News h₀ env.locals h' news → Q .next { s with heap := h', toks := tk }) :
    wpAny (model prog w) A (call (.type "enumerate") [.ref l]) (fun xv s₁ => wpAny (model prog w) A (pyIter xv) (fun it s₂ => PairAt3 prog w A h₀ env xi xc body Q E it s₂) E s₁) E s := by
  refine enum_walk (fun i => a.take i = b.take i) hh hl F N rfl (fun i v t h tk own hv hp F₁ N₁ => ?_) (fun h' tk u hp F₁ N₁ => ?_)
  · have hi : i < va.length := (List.getElem?_eq_some_iff.mp hv).1
    have hi' : i < a.length := ia.length ▸ hi
    obtain ⟨t', ht'⟩ := ia.get i a[i] (by simp [hi'])
    rw [hv] at ht'
    obtain rfl := Option.some.inj ht'
    have hg : a.getD i 0 = a[i] := by simp [List.getD_eq_getElem?_getD, hi']
    exact turn i t t' h tk own hi' (R.len ▸ hi') R.small hp (hg ▸ F₁) N₁
  · rw [ia.length] at hp
    exact done h' tk u (R.cmp ▸ cmpL_same hp R.len) F₁ N₁
end
end Mine
end

/-! Loops -/
section
open PySem PySem.W PyProof.Rows
namespace Mine
set_option maxRecDepth 100000

/-- the end of a turn of a loop over an object whose iterator is own -/
def LoopEnd (h₀ : Heap) (L : Addr) (own : List (Addr × Obj)) (J : (Str → Option Value) → List (Addr × Obj) → Prop) (s₁ s₂ : Shared) : Prop :=
  ∃ h' tk m' nx, s₂ = { s₁ with heap := h', toks := tk } ∧ Fr h₀ L h' m' ∧ News h₀ L h' (nx ++ own) ∧ OwnOff own (nx.map (·.1)) ∧ J m' nx
theorem LoopEnd.intro {h₀ : Heap} {L : Addr} {own : List (Addr × Obj)} {J : (Str → Option Value) → List (Addr × Obj) → Prop} {s₁ : Shared} {h' : Heap} {tk : Nat} {m' : Str → Option Value} (nx : List (Addr × Obj)) {all : List (Addr × Obj)}
    (F : Fr h₀ L h' m') (N : News h₀ L h' all) (hn : ∀ p ∈ nx ++ own, p ∈ all) (ho : OwnOff own (nx.map (·.1))) (hj : J m' nx) : LoopEnd h₀ L own J s₁ { s₁ with heap := h', toks := tk } :=
  ⟨h', tk, m', nx, rfl, F, fun p hp => N p (hn p hp), ho, hj⟩

section
variable {prog : Program} {w : World} {A : Around} {E : Value → Shared → Prop} {s : Shared} {env : Env} {h₀ : Heap} {Q : Flow → Shared → Prop}

def LoopTurn (prog : Program) (w : World) (A : Around) (h₀ : Heap) (env : Env) (x : Str) (body : List Stmt) (Q : Flow → Shared → Prop) (E : Value → Shared → Prop) (n : Nat) (P : Nat → Value → Prop) (J : Nat → (Str → Option Value) → List (Addr × Obj) → Prop) (s₁ : Shared) : Prop :=
  ∀ (i : Nat) v m₁ nx h tk own, i < n → P i v → J i m₁ nx → OwnOff own (nx.map (·.1)) → Fr h₀ env.locals h m₁ → News h₀ env.locals h (nx ++ own) →
    wpAny (model prog w) A (storeName env x v) (fun _ s₂ => wpAny (model prog w) A (execs body env) (fun f s₃ => match f with
      | .ret v => Q (.ret v) s₃
      | .next => LoopEnd h₀ env.locals own (J (i + 1)) { s₁ with heap := h, toks := tk } s₃
      | _ => False) E s₂) E { s₁ with heap := h, toks := tk }

theorem for_core {x : Str} {px : Pos} {body : List Stmt} {I : Addr} {fp : List Addr} {n : Nat} {P : Nat → Value → Prop} {St : Nat → Heap → Prop} {S : List (Addr × Obj) → Prop} {m : Str → Option Value} {news : List (Addr × Obj)}
    (J : Nat → (Str → Option Value) → List (Addr × Obj) → Prop)
    (W : Walks prog w A I fp [I] n P St) (hIo : ∀ i h, St i h → ∃ o, h.get? I = some o)
    (hSt : ∀ i h h' o nw, St i h → h.get? I = some o → h'.get? I = some o → (∀ b o, h₀.get? b = some o → h'.get? b = some o) → News h₀ env.locals h' nw → S nw → St i h')
    (hst : St 0 s.heap) (hIL : env.locals ≠ I) (hI₀ : h₀.get? I = none) (F : Fr h₀ env.locals s.heap m) (N : News h₀ env.locals s.heap news) (off : ∀ p ∈ news, p.1 ≠ I)
    (hj : J 0 m news) (hJS : ∀ i m nx, J i m nx → S nx) (hE : PassesOwn (model prog w) A env E)
    (turn : LoopTurn prog w A h₀ env x body Q E n P J s)
    (done : ∀ m₁ nx h tk, J n m₁ nx → Fr h₀ env.locals h m₁ → News h₀ env.locals h nx → Q .next { s with heap := h, toks := tk }) :
    codeAny (model prog w) A (.forLoop (.Name x px) (.ref I) body [] env) (fun r s' => match r with | .ok f => Q f s' | .error e => cameBackBy (model prog w) A env E e s') s := by
  refine codeAny_forLoop
    (fun k s' => ∃ h' tk m' nx i, s' = { s with heap := h', toks := tk } ∧ St i h' ∧ Fr h₀ env.locals h' m' ∧ News h₀ env.locals h' nx ∧ (∀ p ∈ nx, p.1 ≠ I) ∧ J i m' nx ∧ i ≤ n ∧ k = n + 1 - i) ?_ (n + 1)
    ⟨s.heap, s.toks, m, news, 0, rfl, hst, F, N, off, hj, Nat.zero_le _, rfl⟩
  rintro k s' ⟨h', tk, m', nx, i, rfl, hst', F', N', off', hJ, hi, rfl⟩
  have next : ∀ h₁ : Heap, (∀ b o, b ∉ [I] → h'.get? b = some o → h₁.get? b = some o) → Fr h₀ env.locals h₁ m' ∧ News h₀ env.locals h₁ nx := fun h₁ hk₁ =>
    ⟨LCg.fr_but F' hk₁ hIL hI₀, LCg.news_but N' hk₁ off'⟩
  by_cases hlt : i < n
  · refine W.item i _ _ _ hlt hst' fun v h₁ tk₁ hP hst₁ hk₁ => ?_
    obtain ⟨F₁, N₁⟩ := next h₁ hk₁
    obtain ⟨oI, hoI⟩ := hIo _ _ hst₁
    have ho : OwnOff [(I, oI)] (nx.map (·.1)) := by
      intro p hp b hb
      rw [List.mem_singleton.mp hp]
      obtain ⟨q, hq, rfl⟩ := List.mem_map.mp hb
      exact (off' q hq).symm
    have N₂ : News h₀ env.locals h₁ (nx ++ [(I, oI)]) := fun p hp => by
      rcases List.mem_append.mp hp with hp | hp
      · exact N₁ p hp
      · rw [List.mem_singleton.mp hp]; exact ⟨hoI, Ne.symm hIL, hI₀⟩
    have T := turn i v m' nx h₁ tk₁ [(I, oI)] hlt hP hJ ho F₁ N₂
    refine wpAny_passesOwn hE ?_
    refine wpAny_assign_Name (wpAny_mono T (fun _ s₂ h₂ => ?_) fun _ _ e => e)
    refine wpAny_passesOwn hE (wpAny_mono h₂ (fun f s₃ h₃ => ?_) fun _ _ e => e)
    cases f with
    | ret v => exact h₃
    | brk => exact h₃.elim
    | cont => exact h₃.elim
    | next =>
      obtain ⟨h₄, tk₄, m₄, nx₄, rfl, F₄, N₄, ho₄, hJ₄⟩ := h₃
      have N₅ : News h₀ env.locals h₄ nx₄ := fun p hp => N₄ p (List.mem_append.mpr (.inl hp))
      refine ⟨n + 1 - (i + 1), by omega, h₄, tk₄, m₄, nx₄, i + 1, rfl, ?_, F₄, N₅, ?_, hJ₄, hlt, rfl⟩
      · exact hSt _ _ _ _ _ hst₁ hoI (N₄ (I, oI) (List.mem_append.mpr (.inr (List.mem_singleton.mpr rfl)))).1 F₄.keep N₅ (hJS _ _ _ hJ₄)
      · intro p hp e
        exact ho₄ (I, oI) (List.mem_singleton.mpr rfl) p.1 (List.mem_map.mpr ⟨p, hp, rfl⟩) e.symm
  · have hin : i = n := by omega
    subst hin
    refine W.done _ _ _ hst' fun h₁ tk₁ hk₁ => wpAny_passesOwn hE (wpAny_execs_nil ?_)
    obtain ⟨F₁, N₁⟩ := next h₁ hk₁
    exact done m' nx h₁ tk₁ hJ F₁ N₁

/-- the source of a for is a list of the ledger -/
def ForSrcL (prog : Program) (w : World) (A : Around) (h₀ : Heap) (env : Env) (x : Str) (body : List Stmt) (Q : Flow → Shared → Prop) (E : Value → Shared → Prop) (xv : Value) (s₁ : Shared) : Prop :=
  ∃ (l : Addr) (vs : List Value) (c : Nat) (m : Str → Option Value) (news : List (Addr × Obj)) (J : Nat → (Str → Option Value) → List (Addr × Obj) → Prop), xv = .ref l ∧ A.handled = none ∧ Fr h₀ env.locals s₁.heap m ∧ News h₀ env.locals s₁.heap news ∧
    J 0 m news ∧ (∀ i m nx, J i m nx → (l, listOf vs.toArray c) ∈ nx) ∧ PassesOwn (model prog w) A env E ∧
    (∀ g tk, LoopTurn prog w A h₀ env x body Q E vs.length (fun i v => vs[i]? = some v) J { s₁ with heap := g, toks := tk }) ∧
    (∀ m₁ nx h tk, J vs.length m₁ nx → Fr h₀ env.locals h m₁ → News h₀ env.locals h nx → Q .next { s₁ with heap := h, toks := tk })

theorem ForSrcL.intro {x : Str} {body : List Stmt} {l : Addr} {vs : List Value} {c : Nat} {m : Str → Option Value} {news news' : List (Addr × Obj)} (J : Nat → (Str → Option Value) → List (Addr × Obj) → Prop)
    (hh : A.handled = none) (F : Fr h₀ env.locals s.heap m) (N : News h₀ env.locals s.heap news') (hN : ∀ p ∈ news, p ∈ news') (hj : J 0 m news) (hl : ∀ i m nx, J i m nx → (l, listOf vs.toArray c) ∈ nx) (hE : PassesOwn (model prog w) A env E)
    (turn : ∀ g tk, LoopTurn prog w A h₀ env x body Q E vs.length (fun i v => vs[i]? = some v) J { s with heap := g, toks := tk })
    (done : ∀ m₁ nx h tk, J vs.length m₁ nx → Fr h₀ env.locals h m₁ → News h₀ env.locals h nx → Q .next { s with heap := h, toks := tk }) :
    ForSrcL prog w A h₀ env x body Q E (.ref l) s := ⟨l, vs, c, m, news, J, rfl, hh, F, fun p hp => N p (hN p hp), hj, hl, hE, turn, done⟩

theorem For_list {x : Str} {px pos : Pos} {iter : Expr} {body : List Stmt} {m₀ : Str → Option Value} (F₀ : Fr h₀ env.locals s.heap m₀) (h : wpAny (model prog w) A (eval iter env) (ForSrcL prog w A h₀ env x body Q E) E s)
    (hs : ∀ x, foldedSetIterable iter env x = pure x) : wpAny (model prog w) A (exec (.For (.Name x px) iter body [] pos) env) Q E s := by
  refine wpAny_For (wpAny_mono h (fun xv s₁ h₁ => ?_) fun _ _ e => e) hs
  obtain ⟨l, vs, c, m, news, J, rfl, hh, F, N, hj, hl, hE, turn, done⟩ := h₁
  have hm := hl _ _ _ hj
  have hol := (N _ hm).1
  have hls : s₁.heap.IsList l vs.toArray := ⟨_, hol, rfl, c, rfl⟩
  have hne : l ≠ s₁.heap.objs.size := Nat.ne_of_lt (Heap.lt_size hol)
  refine wpAny_pyIter_list hls ?_
  have up : ∀ b o, s₁.heap.get? b = some o → (s₁.heap.push { cls := .type "list_iterator", data := .fields #[.ref l, .int 0 0] }).get? b = some o := fun b o e => Heap.get?_push_of_some _ e
  have W := Walks.list (prog := prog) (w := w) hh s₁.heap.objs.size l hne vs.toArray
  rw [show vs.toArray.size = vs.length by simp] at W
  have turn' := turn (s₁.heap.push { cls := .type "list_iterator", data := .fields #[.ref l, .int 0 0] }) s₁.toks
  refine for_core (S := LCg.SrcAt h₀ l vs.toArray) J W (fun i h st => by obtain ⟨o, e, _⟩ := st.1; exact ⟨o, e⟩) LCg.list_st ⟨⟨_, Heap.get?_push_size _ rfl, rfl, rfl⟩, hls.push _⟩ (Nat.ne_of_lt F.ns.lt) (next_is_new F)
    (F.keeps up) (N.grown up) (fun p hp => Nat.ne_of_lt (Heap.lt_size (N p hp).1)) hj (fun i m nx hJ => .inr ⟨_, hl _ _ _ hJ, rfl, _, rfl⟩) hE ?_ (fun m₁ nx h tk hJ F' N' => done m₁ nx h tk hJ F' N')
  intro i v m₁ nx h tk own hi hP hJ ho F' N'
  exact turn' i v m₁ nx h tk own hi (by simpa using hP) hJ ho F' N'

/-- the source of a for is a range by ones -/
def ForSrcR (prog : Program) (w : World) (A : Around) (h₀ : Heap) (env : Env) (x : Str) (body : List Stmt) (Q : Flow → Shared → Prop) (E : Value → Shared → Prop) (xv : Value) (s₁ : Shared) : Prop :=
  ∃ (r : Addr) (a b : Int) (t u v : Tok) (n : Nat) (m : Str → Option Value) (news : List (Addr × Obj)) (J : Nat → (Str → Option Value) → List (Addr × Obj) → Prop), xv = .ref r ∧ A.handled = none ∧ Fr h₀ env.locals s₁.heap m ∧ News h₀ env.locals s₁.heap news ∧
    IsRange s₁.heap r a b 1 t u v ∧ Builtin.Range.small a b 1 = true ∧ Builtin.Range.rangeSize a b 1 = ((n : Nat) : Int) ∧ J 0 m news ∧ PassesOwn (model prog w) A env E ∧
    (∀ g tk, LoopTurn prog w A h₀ env x body Q E n (fun i v => ∃ t, v = .int (a + (i : Int)) t) J { s₁ with heap := g, toks := tk }) ∧
    (∀ m₁ nx h tk, J n m₁ nx → Fr h₀ env.locals h m₁ → News h₀ env.locals h nx → Q .next { s₁ with heap := h, toks := tk })

theorem ForSrcR.intro {x : Str} {body : List Stmt} {r : Addr} {a b : Int} {t u v : Tok} {n : Nat} {m : Str → Option Value} {news news' : List (Addr × Obj)} (J : Nat → (Str → Option Value) → List (Addr × Obj) → Prop)
    (hh : A.handled = none) (F : Fr h₀ env.locals s.heap m) (N : News h₀ env.locals s.heap news') (hN : ∀ p ∈ news, p ∈ news') (hr : IsRange s.heap r a b 1 t u v) (hsm : Builtin.Range.small a b 1 = true) (hn : Builtin.Range.rangeSize a b 1 = ((n : Nat) : Int)) (hj : J 0 m news) (hE : PassesOwn (model prog w) A env E)
    (turn : ∀ g tk, LoopTurn prog w A h₀ env x body Q E n (fun i v => ∃ t, v = .int (a + (i : Int)) t) J { s with heap := g, toks := tk })
    (done : ∀ m₁ nx h tk, J n m₁ nx → Fr h₀ env.locals h m₁ → News h₀ env.locals h nx → Q .next { s with heap := h, toks := tk }) :
    ForSrcR prog w A h₀ env x body Q E (.ref r) s := ⟨r, a, b, t, u, v, n, m, news, J, rfl, hh, F, fun p hp => N p (hN p hp), hr, hsm, hn, hj, hE, turn, done⟩

theorem For_range {x : Str} {px pos : Pos} {iter : Expr} {body : List Stmt} {m₀ : Str → Option Value} (F₀ : Fr h₀ env.locals s.heap m₀) (h : wpAny (model prog w) A (eval iter env) (ForSrcR prog w A h₀ env x body Q E) E s)
    (hs : ∀ x, foldedSetIterable iter env x = pure x) : wpAny (model prog w) A (exec (.For (.Name x px) iter body [] pos) env) Q E s := by
  refine wpAny_For (wpAny_mono h (fun xv s₁ h₁ => ?_) fun _ _ e => e) hs
  obtain ⟨r, a, b, t, u, v, n, m, news, J, rfl, hh, F, N, hr, hsm, hn, hj, hE, turn, done⟩ := h₁
  refine wpAny_pyIter_range hr hsm ?_
  refine for_core (S := fun _ => True) J (LCg.range_walks hh a n) (fun i h st => ⟨_, st⟩) LCg.range_st (by show IsRangeIter _ _ _ _ _; rw [hn]; simpa using Heap.get?_push_size _ rfl) (Nat.ne_of_lt F.ns.lt) (next_is_new F)
    (F.keeps fun _ _ e => Heap.get?_push_of_some _ e) (N.grown fun _ _ e => Heap.get?_push_of_some _ e) (fun p hp => Nat.ne_of_lt (Heap.lt_size (N p hp).1)) hj (fun _ _ _ _ => trivial) hE (turn _ _) (fun m₁ nx h tk hJ F' N' => done m₁ nx h tk hJ F' N')
end
end Mine
end

/-! Comps -/
section
open PySem PySem.W PyProof.Rows PyProof.Rows.LCg PyProof.Rows.LCp
namespace Mine
set_option maxRecDepth 100000

theorem compEnd_mono {h₀ : Heap} {L : Addr} {m : Str → Option Value} {s₁ : Shared} {I : Addr} {oI : Obj} {C : Addr} {oC : Obj} {D : Addr} {oD : Obj} {S : List (Addr × Obj) → Prop} {rest rest' : Value → List (Addr × Obj) → Prop} {y : Value} {s₂ : Shared}
    (h : CompEnd h₀ L m s₁ I oI C oC D oD S rest y s₂) (hr : ∀ y nw, rest y nw → rest' y nw) : CompEnd h₀ L m s₁ I oI C oC D oD S rest' y s₂ := by
  obtain ⟨h', tk, news', e, F, N, o, hS, r⟩ := h
  exact ⟨h', tk, news', e, F, N, o, hS, hr _ _ r⟩

section
variable {prog : Program} {w : World} {A : Around} {h₀ : Heap} {L : Addr} {m : Str → Option Value} {env : Env} {elt : Expr} {x x₂ : Str} {scope : Scope} {cl : List (Str × Addr)} {s : Shared} {S : List (Addr × Obj) → Prop} {P : Nat → Value → Prop} {Fin : List Value → List (Addr × Obj) → Prop}

/-- the turns of a comprehension, by an invariant J over place, items made and ledger -/
theorem compRest_ind (J : Nat → List Value → List (Addr × Obj) → Prop) (n : Nat)
    (step : ∀ (i : Nat) (ys : List Value) (news : List (Addr × Obj)) v I oI C oC D m₂ h tk (E' : Value → Shared → Prop), i < n → P i v → J i ys news → NsObj oC m₂ → m₂ x = some v → Fr h₀ L h m → News h₀ L h ((I, oI) :: (C, oC) :: (D, lst ys) :: news) → Off3 I C D news → ((@Ne Nat I C) ∧ (@Ne Nat I D) ∧ (@Ne Nat C D)) →
      wpAny (model prog w) A (eval elt (compEnvC scope cl C env)) (CompEnd h₀ L m { s with heap := h, toks := tk } I oI C oC D (lst ys) S (fun y news' => J (i + 1) (ys ++ [y]) news')) E' { s with heap := h, toks := tk })
    (fin : ∀ ys news, J n ys news → Fin ys news) : ∀ (k i : Nat) (ys : List Value) (news : List (Addr × Obj)), i + k = n → J i ys news → CompRest prog w A h₀ L m env elt x scope cl s S P Fin k i ys news := by
  intro k
  induction k with
  | zero => intro i ys news hi hj; exact fin ys news (by rw [Nat.add_zero] at hi; exact hi ▸ hj)
  | succ k ih =>
    intro i ys news hi hj
    refine CompRest.succ fun v I oI C oC D m₂ h tk E' hP hC hx F N off ne => ?_
    refine wpAny_mono (step i ys news v I oI C oC D m₂ h tk E' (by omega) hP hj hC hx F N off ne) (fun y s₂ he => ?_) fun _ _ e => e
    exact compEnd_mono he fun y nw hJ => ih (i + 1) (ys ++ [y]) nw (by omega) hJ

/-- the same over pairs -/
theorem compRestP_ind (J : Nat → List Value → List (Addr × Obj) → Prop) (n : Nat)
    (step : ∀ (i : Nat) (ys : List Value) (news : List (Addr × Obj)) v, i < n → P i v → J i ys news → ∃ (t : Addr) (ot : Obj) (v₁ v₂ : Value) (nt : Nat), v = .ref t ∧ (t, ot) ∈ news ∧ ot.cls = .type "tuple" ∧ ot.data = .seq #[v₁, v₂] nt ∧
      ∀ I oI C oC D m₂ h tk (E' : Value → Shared → Prop), NsObj oC m₂ → m₂ x = some v₁ → m₂ x₂ = some v₂ → Fr h₀ L h m → News h₀ L h ((I, oI) :: (C, oC) :: (D, lst ys) :: news) → Off3 I C D news → ((@Ne Nat I C) ∧ (@Ne Nat I D) ∧ (@Ne Nat C D)) →
      wpAny (model prog w) A (eval elt (compEnvC scope cl C env)) (CompEnd h₀ L m { s with heap := h, toks := tk } I oI C oC D (lst ys) S (fun y news' => J (i + 1) (ys ++ [y]) news')) E' { s with heap := h, toks := tk })
    (fin : ∀ ys news, J n ys news → Fin ys news) : ∀ (k i : Nat) (ys : List Value) (news : List (Addr × Obj)), i + k = n → J i ys news → CompRestP prog w A h₀ L m env elt x x₂ scope cl s S P Fin k i ys news := by
  intro k
  induction k with
  | zero => intro i ys news hi hj; exact fin ys news (by rw [Nat.add_zero] at hi; exact hi ▸ hj)
  | succ k ih =>
    intro i ys news hi hj
    refine CompRestP.succ fun v hP => ?_
    obtain ⟨t, ot, v₁, v₂, nt, e, hm, hc, hd, R⟩ := step i ys news v (by omega) hP hj
    refine ⟨t, ot, v₁, v₂, nt, e, hm, hc, hd, fun I oI C oC D m₂ h tk E' hC hx hy F N off ne => ?_⟩
    refine wpAny_mono (R I oI C oC D m₂ h tk E' hC hx hy F N off ne) (fun y s₂ he => ?_) fun _ _ e => e
    exact compEnd_mono he fun y nw hJ => ih (i + 1) (ys ++ [y]) nw (by omega) hJ
end

theorem off1_mem {D : Addr} : ∀ {l : List (Addr × Obj)}, Off1 D l → ∀ p ∈ l, p.1 ≠ D
  | [], _, _, h => nomatch h
  | _ :: _, x, p, h => by
    rcases List.mem_cons.mp h with rfl | h
    · exact x.1
    · exact off1_mem x.2 p h

end Mine
end

/-! LawA -/
section
open PySem PySem.W PyProof.Rows PyProof.Rows.LCg PyProof.Rows.LCp
namespace Mine
set_option maxRecDepth 100000

/-! the numbers and texts of the table -/
def vl (j : Nat) : Int := [0, 2, 10, 3, 123456789012, 9, 100].getD j 0
def tx (j : Nat) : PySem.Str := [PySem.Str.ofString "0", PySem.Str.ofString "2", PySem.Str.ofString "10", PySem.Str.ofString "03", PySem.Str.ofString "123456789012", PySem.Str.ofString "9", PySem.Str.ofString "0100"].getD j (PySem.Str.ofString "0")
def tupD (j : Nat) : Dat := .tuple [.int (vl j), .str (tx j)]
def rowD (d : List Nat) : Dat := .list (d.map tupD)
def okRow (d : List Nat) : Prop := 1 ≤ d.length ∧ d.length ≤ 4 ∧ ∀ j ∈ d, j < 7

def J1 (R D cN cP cT cTb cX : Addr) (src oN oP oT : Obj) (i : Nat) (m : Str → Option Value) (nx : List (Addr × Obj)) : Prop :=
  ∃ (rs : List Value) (c : Nat) (ds : List (List Nat)) (oTb oX : Obj) (vTb vX : Option Value) (T : List (Addr × Obj)) (u : Str → Option Value),
    nx = (R, listOf rs.toArray c) :: (D, src) :: (cN, oN) :: (cP, oP) :: (cT, oT) :: (cTb, oTb) :: (cX, oX) :: T ∧ ds.length = i ∧ (∀ d ∈ ds, okRow d) ∧ DatAll T rs (ds.map rowD) ∧
    OwnOff T [R, D, cN, cP, cT, cTb, cX] ∧ oTb.data = .cell vTb ∧ oX.data = .cell vX ∧ m = fun y => if y = PySem.Str.ofString "rows" then some (.ref R) else u y

section
variable {prog : Program} {w : World} {A : Around} {E : Value → Shared → Prop} {s : Shared} {env : Env} {h₀ : Heap} {Q : Flow → Shared → Prop}

theorem ownOff_append {T own : List (Addr × Obj)} {adr : List Addr} (h1 : OwnOff T adr) (h2 : OwnOff own adr) : OwnOff (T ++ own) adr := by
  intro p hp b hb
  rcases List.mem_append.mp hp with hp | hp
  · exact h1 p hp b hb
  · exact h2 p hp b hb

theorem loop1_intro {x : Str} {body : List Stmt} {vs : List Value} {ns : List Int} {k : Nat} {R D D1 D2 D3 l cN cP cT cTb cX : Addr} {o1 o2 o3 ol oN oP oT oTb oX : Obj} {vTb vX : Option Value} {u : Str → Option Value}
    (hh : A.handled = none) (F : Fr h₀ env.locals s.heap (fun y => if y = PySem.Str.ofString "rows" then some (.ref R) else u y))
    (N : News h₀ env.locals s.heap [(D, listOf vs.toArray k), (D1, o1), (D2, o2), (l, ol), (D3, o3), (R, listOf #[] 0), (cN, oN), (cP, oP), (cT, oT), (cTb, oTb), (cX, oX)])
    (hI : IntsAre vs ns) (hn : ns.length ≤ 7) (hTb : oTb.data = .cell vTb) (hX : oX.data = .cell vX) (hE : PassesOwn (model prog w) A env E)
    (turn : ∀ (n : Int) t (rs : List Value) (c : Nat) (ds : List (List Nat)) (oTb oX : Obj) (vTb vX : Option Value) (T : List (Addr × Obj)) (u : Str → Option Value) h tk (own : List (Addr × Obj)), ds.length < 7 → (∀ d ∈ ds, okRow d) → DatAll T rs (ds.map rowD) → OwnOff (T ++ own) [R, D, cN, cP, cT, cTb, cX] → OwnOff own [R, D, cN, cP, cT, cTb, cX] → OwnOff T [R, D, cN, cP, cT, cTb, cX] → OwnOff own (T.map (·.1)) → oTb.data = .cell vTb → oX.data = .cell vX →
      Fr h₀ env.locals h (fun y => if y = PySem.Str.ofString "rows" then some (.ref R) else u y) →
      News h₀ env.locals h ((R, listOf rs.toArray c) :: (D, listOf vs.toArray k) :: (cN, oN) :: (cP, oP) :: (cT, oT) :: (cTb, oTb) :: (cX, oX) :: (T ++ own)) →
      wpAny (model prog w) A (storeName env x (.int n t)) (fun _ s₂ => wpAny (model prog w) A (execs body env) (fun f s₃ => match f with
        | .ret v => Q (.ret v) s₃
        | .next => LoopEnd h₀ env.locals own (J1 R D cN cP cT cTb cX (listOf vs.toArray k) oN oP oT (ds.length + 1)) { s with heap := h, toks := tk } s₃
        | _ => False) E s₂) E { s with heap := h, toks := tk })
    (done : ∀ (rs : List Value) (c : Nat) (ds : List (List Nat)) (oTb oX : Obj) (vTb vX : Option Value) (T : List (Addr × Obj)) (u : Str → Option Value) h tk, ds.length ≤ 7 → (∀ d ∈ ds, okRow d) → DatAll T rs (ds.map rowD) → OwnOff T [R, cN, cP, cT] → oTb.data = .cell vTb → oX.data = .cell vX →
      Fr h₀ env.locals h (fun y => if y = PySem.Str.ofString "rows" then some (.ref R) else u y) →
      News h₀ env.locals h ((R, listOf rs.toArray c) :: (cN, oN) :: (cP, oP) :: (cT, oT) :: T) → Q .next { s with heap := h, toks := tk }) :
    ForSrcL prog w A h₀ env x body Q E (.ref D) s := by
  refine ForSrcL.intro (vs := vs) (c := k) (news := (R, listOf ([] : List Value).toArray 0) :: (D, listOf vs.toArray k) :: (cN, oN) :: (cP, oP) :: (cT, oT) :: (cTb, oTb) :: (cX, oX) :: []) (J1 R D cN cP cT cTb cX (listOf vs.toArray k) oN oP oT) hh F N ?_ ⟨[], 0, [], oTb, oX, vTb, vX, [], u, rfl, rfl, (fun _ h => nomatch h), .nil, (fun _ h => nomatch h), hTb, hX, rfl⟩ ?_ hE ?_ ?_
  · intro p hp
    simp only [List.mem_cons, List.not_mem_nil, or_false] at hp ⊢
    rcases hp with rfl | rfl | rfl | rfl | rfl | rfl | rfl <;> simp
  · rintro i m nx ⟨rs, c, ds, oTb, oX, vTb, vX, T, u, rfl, _⟩
    simp
  · rintro g tk0 i v m₁ nx h tk own hi hv ⟨rs, c, ds, oTb, oX, vTb, vX, T, u, rfl, rfl, hok, hd, hT, hTb, hX, rfl⟩ ho F₁ N₁
    have hl : vs.length = ns.length := hI.length
    obtain ⟨t, ht⟩ := hI.get ds.length (ns[ds.length]'(hl ▸ hi)) (by simp [hl ▸ hi])
    have hv' : vs[ds.length]? = some v := hv
    rw [hv'] at ht
    obtain rfl := Option.some.inj ht
    have ho1 : OwnOff own [R, D, cN, cP, cT, cTb, cX] := fun p hp b hb => ho p hp b (by simp only [List.map_cons, List.mem_cons] at hb ⊢; simp only [List.not_mem_nil, or_false] at hb; rcases hb with rfl | rfl | rfl | rfl | rfl | rfl | rfl <;> simp)
    have ho2 : OwnOff own (T.map (·.1)) := fun p hp b hb => ho p hp b (by simp only [List.map_cons, List.mem_cons]; simp [hb])
    exact turn _ t rs c ds oTb oX vTb vX T u h tk own (by omega) hok hd (ownOff_append hT ho1) ho1 hT ho2 hTb hX F₁ N₁
  · rintro m₁ nx h tk ⟨rs, c, ds, oTb, oX, vTb, vX, T, u, rfl, hlen, hok, hd, hT, hTb, hX, rfl⟩ F₁ N₁
    have hl : vs.length = ns.length := hI.length
    refine done rs c ds oTb oX vTb vX T u h tk (by omega) hok hd (fun p hp b hb => hT p hp b (by simp only [List.mem_cons, List.not_mem_nil, or_false] at hb ⊢; rcases hb with rfl | rfl | rfl | rfl <;> simp)) hTb hX F₁ fun p hp => N₁ p ?_
    simp only [List.mem_cons] at hp ⊢
    rcases hp with rfl | rfl | rfl | rfl | hp <;> simp [*]
end
end Mine
end

/-! LawB -/
section
open PySem PySem.W PyProof.Rows PyProof.Rows.LCg PyProof.Rows.LCp
namespace Mine
set_option maxRecDepth 100000

def tabD : List Dat := (List.range 7).map tupD

theorem tabD_eq : tabD = [.tuple [.int 0, .str (PySem.Str.ofString "0")], .tuple [.int 2, .str (PySem.Str.ofString "2")], .tuple [.int 10, .str (PySem.Str.ofString "10")], .tuple [.int 3, .str (PySem.Str.ofString "03")],
    .tuple [.int 123456789012, .str (PySem.Str.ofString "123456789012")], .tuple [.int 9, .str (PySem.Str.ofString "9")], .tuple [.int 100, .str (PySem.Str.ofString "0100")]] := rfl

abbrev pairO (v : Int) (x : PySem.Str) (k k' : Tok) (n : Nat) : Obj := { cls := .type "tuple", data := .seq #[.int v k, .str x k'] n }
theorem pairO_in {nw : List (Addr × Obj)} {a : Addr} {v : Int} {x : PySem.Str} {k k' : Tok} {n : Nat} (h : (a, pairO v x k k' n) ∈ nw) : DatIn nw (.ref a) (.tuple [.int v, .str x]) :=
  DatIn.tuple (vs := [.int v k, .str x k']) h (.cons (.int _ _) (.cons (.str _ _) .nil))

theorem allLt_mem {a : Addr} : ∀ {l : List (Addr × Obj)}, AllLt a l → ∀ p ∈ l, p.1 < a
  | [], _, _, h => nomatch h
  | q :: r, x, p, h => by
    rcases List.mem_cons.mp h with rfl | h
    · exact x.1
    · exact allLt_mem x.2 p h

/-- the table's eight objects put away: its list stays in sight, its pairs go behind -/
theorem pack {h₀ h : Heap} {L tb a1 a2 a3 a4 a5 a6 a7 R D cN cP cT cTb cX : Addr} {oR oD oN oP oT oTb oX : Obj} {T own : List (Addr × Obj)} {rs : List Value} {rd : List Dat}
    {k1 k2 k3 k4 k5 k6 k7 j1 j2 j3 j4 j5 j6 j7 : Tok} {n1 n2 n3 n4 n5 n6 n7 n8 : Nat} {X2 X3 X4 X5 X6 X7 X8 : Prop}
    (N : News h₀ L h ((tb, listOf #[.ref a1, .ref a2, .ref a3, .ref a4, .ref a5, .ref a6, .ref a7] n8) :: (a7, pairO 100 (PySem.Str.ofString "0100") k7 j7 n7) :: (a6, pairO 9 (PySem.Str.ofString "9") k6 j6 n6) ::
      (a5, pairO 123456789012 (PySem.Str.ofString "123456789012") k5 j5 n5) :: (a4, pairO 3 (PySem.Str.ofString "03") k4 j4 n4) :: (a3, pairO 10 (PySem.Str.ofString "10") k3 j3 n3) :: (a2, pairO 2 (PySem.Str.ofString "2") k2 j2 n2) :: (a1, pairO 0 (PySem.Str.ofString "0") k1 j1 n1) ::
      (R, oR) :: (D, oD) :: (cN, oN) :: (cP, oP) :: (cT, oT) :: (cTb, oTb) :: (cX, oX) :: (T ++ own)))
    (l1 : @LT.lt Nat _ R a1 ∧ @LT.lt Nat _ D a1 ∧ @LT.lt Nat _ cN a1 ∧ @LT.lt Nat _ cP a1 ∧ @LT.lt Nat _ cT a1 ∧ @LT.lt Nat _ cTb a1 ∧ @LT.lt Nat _ cX a1 ∧ AllLt a1 (T ++ own))
    (l2 : @LT.lt Nat _ a1 a2 ∧ X2) (l3 : @LT.lt Nat _ a2 a3 ∧ X3) (l4 : @LT.lt Nat _ a3 a4 ∧ X4) (l5 : @LT.lt Nat _ a4 a5 ∧ X5) (l6 : @LT.lt Nat _ a5 a6 ∧ X6) (l7 : @LT.lt Nat _ a6 a7 ∧ X7) (l8 : @LT.lt Nat _ a7 tb ∧ X8)
    (hd : DatAll T rs rd) (d5 : OwnOff own [R, D, cN, cP, cT, cTb, cX]) (d6 : OwnOff T [R, D, cN, cP, cT, cTb, cX]) (d7 : OwnOff own (T.map (·.1))) :
    ∃ (its : List Value) (T2 : List (Addr × Obj)), News h₀ L h ((tb, listOf its.toArray n8) :: (R, oR) :: (D, oD) :: (cN, oN) :: (cP, oP) :: (cT, oT) :: (cTb, oTb) :: (cX, oX) :: (T2 ++ own)) ∧
      DatAll T2 its tabD ∧ DatAll T2 rs rd ∧ OwnOff own [tb, R, D, cN, cP, cT, cTb, cX] ∧ OwnOff T2 [tb, R, D, cN, cP, cT, cTb, cX] ∧ OwnOff own (T2.map (·.1)) ∧ its.length = 7 ∧
      (@LT.lt Nat _ R tb ∧ @LT.lt Nat _ D tb ∧ @LT.lt Nat _ cN tb ∧ @LT.lt Nat _ cP tb ∧ @LT.lt Nat _ cT tb ∧ @LT.lt Nat _ cTb tb ∧ @LT.lt Nat _ cX tb) ∧ (∀ p ∈ T2 ++ own, p.1 < tb) := by
  obtain ⟨r1, r2, r3, r4, r5, r6, r7, r8⟩ := l1
  have q2 := l2.1; have q3 := l3.1; have q4 := l4.1; have q5 := l5.1; have q6 := l6.1; have q7 := l7.1; have q8 := l8.1
  clear l2 l3 l4 l5 l6 l7 l8
  have ra := allLt_mem r8
  let T2 : List (Addr × Obj) := [(a7, pairO 100 (PySem.Str.ofString "0100") k7 j7 n7), (a6, pairO 9 (PySem.Str.ofString "9") k6 j6 n6), (a5, pairO 123456789012 (PySem.Str.ofString "123456789012") k5 j5 n5), (a4, pairO 3 (PySem.Str.ofString "03") k4 j4 n4), (a3, pairO 10 (PySem.Str.ofString "10") k3 j3 n3), (a2, pairO 2 (PySem.Str.ofString "2") k2 j2 n2), (a1, pairO 0 (PySem.Str.ofString "0") k1 j1 n1)] ++ T
  have mT : ∀ p ∈ T, p ∈ T2 := fun p hp => List.mem_append.mpr (.inr hp)
  have lo : ∀ p ∈ T, @LT.lt Nat _ p.1 a1 := fun p hp => ra p (List.mem_append.mpr (.inl hp))
  have lw : ∀ p ∈ own, @LT.lt Nat _ p.1 a1 := fun p hp => ra p (List.mem_append.mpr (.inr hp))
  have hi : ∀ p ∈ T2, (@LE.le Nat _ a1 p.1 ∧ @LE.le Nat _ p.1 a7) ∨ p ∈ T := by
    intro p hp
    rcases List.mem_append.mp hp with hp | hp
    · left
      simp only [List.mem_cons, List.not_mem_nil, or_false] at hp
      rcases hp with rfl | rfl | rfl | rfl | rfl | rfl | rfl <;> (refine ⟨?_, ?_⟩ <;> (dsimp only; omega))
    · exact .inr hp
  refine ⟨[.ref a1, .ref a2, .ref a3, .ref a4, .ref a5, .ref a6, .ref a7], T2, ?_, ?_, hd.mono mT, ?_, ?_, ?_, rfl, ⟨?_, ?_, ?_, ?_, ?_, ?_, ?_⟩, ?_⟩
  · intro p hp
    refine N p ?_
    simp only [T2, List.mem_cons, List.mem_append, List.not_mem_nil, or_false] at hp ⊢
    rcases hp with h | h | h | h | h | h | h | h | (h | h) | h
    · exact .inl h
    · simp only [h, true_or, or_true]
    · simp only [h, true_or, or_true]
    · simp only [h, true_or, or_true]
    · simp only [h, true_or, or_true]
    · simp only [h, true_or, or_true]
    · simp only [h, true_or, or_true]
    · simp only [h, true_or, or_true]
    · rcases h with h | h | h | h | h | h | h <;> simp only [h, true_or, or_true]
    · simp only [h, true_or, or_true]
    · simp only [h, true_or, or_true]
  · rw [tabD_eq]
    exact .cons (pairO_in (List.mem_append.mpr (.inl (by k_mem)))) (.cons (pairO_in (List.mem_append.mpr (.inl (by k_mem)))) (.cons (pairO_in (List.mem_append.mpr (.inl (by k_mem)))) (.cons (pairO_in (List.mem_append.mpr (.inl (by k_mem)))) (.cons (pairO_in (List.mem_append.mpr (.inl (by k_mem)))) (.cons (pairO_in (List.mem_append.mpr (.inl (by k_mem)))) (.cons (pairO_in (List.mem_append.mpr (.inl (by k_mem)))) .nil))))))
  · intro p hp b hb
    rcases List.mem_cons.mp hb with rfl | hb
    · have := lw p hp; refine neN ?_; omega
    · exact d5 p hp b hb
  · intro p hp b hb
    rcases hi p hp with h | h
    · have h1 : @LT.lt Nat _ b a1 ∨ @Eq Nat b tb := by
        simp only [List.mem_cons, List.not_mem_nil, or_false] at hb
        rcases hb with rfl | rfl | rfl | rfl | rfl | rfl | rfl | rfl
        · exact .inr rfl
        all_goals exact .inl (by assumption)
      rcases h1 with h1 | h1 <;> (refine neN ?_; omega)
    · rcases List.mem_cons.mp hb with rfl | hb
      · have := lo p h; refine neN ?_; omega
      · exact d6 p h b hb
  · intro p hp b hb
    obtain ⟨q, hq, rfl⟩ := List.mem_map.mp hb
    rcases hi q hq with h | h
    · have := lw p hp; refine neN ?_; omega
    · exact d7 p hp _ (List.mem_map.mpr ⟨q, h, rfl⟩)
  all_goals first
    | (refine ltN ?_; omega)
    | skip
  intro p hp
  rcases List.mem_append.mp hp with hp | hp
  · rcases hi p hp with h | h
    · refine ltN ?_; omega
    · have := lo p h; refine ltN ?_; omega
  · have := lw p hp; refine ltN ?_; omega
end Mine
end

/-! LawC -/
section
open PySem PySem.W PyProof.Rows PyProof.Rows.LCg PyProof.Rows.LCp
namespace Mine
set_option maxRecDepth 100000

theorem tabD_get {k : Nat} (h : k < 7) : tabD[k]? = some (tupD k) := by
  unfold tabD
  simp [h]

section
variable {prog : Program} {w : World} {A : Around} {E : Value → Shared → Prop} {s : Shared} {h₀ : Heap} {L : Addr} {m : Str → Option Value} {news : List (Addr × Obj)} {T2 : List (Addr × Obj)} {its : List Value}

/-- an item of the table at a place that is not written -/
theorem item_pick {value slice : PySem.Expr} {tb : Addr} {c : Nat} {k : Int} {u : Tok} {Q : Value → Shared → Prop} (N : News h₀ L s.heap news) (hm : (tb, listOf its.toArray c) ∈ news) (hit : DatAll T2 its tabD) (h0 : 0 ≤ k) (h7 : k < 7)
    (h : ∀ v j, j < 7 → DatIn T2 v (tupD j) → Q v s)
    (hs : subscripted slice false (.ref tb) (.int k u) = operate [.ref tb, .int k u] (getItem (.ref tb) (.int k u)) := by with_unfolding_all rfl) :
    wpAny (model prog w) A (subscriptTail value slice (.ref tb) (.int k u)) Q E s := by
  have hk : k.toNat < 7 := by omega
  have hkl : k.toNat < tabD.length := hk
  obtain ⟨v, hv, hd⟩ := hit.get hkl
  have e : tabD[k.toNat] = tupD k.toNat := by
    have h1 := tabD_get hk
    rw [List.getElem?_eq_getElem hkl] at h1
    exact Option.some.inj h1
  rw [e] at hd
  have hl : s.heap.IsList tb its.toArray := ⟨_, (N _ hm).1, rfl, c, rfl⟩
  exact tail_any hl.typeIs slot_list_getitem.lookup (wpAny_getItem_list hl h0 (by omega) (by simpa using hv) (h v _ hk hd)) hs

/-- the end of an element's walk: nothing known is turned -/
def EltEnd (h₀ : Heap) (L : Addr) (m : Str → Option Value) (keep : List (Addr × Obj)) (P : Value → Prop) (s₁ : Shared) (y : Value) (s₂ : Shared) : Prop :=
  ∃ h' tk all, s₂ = { s₁ with heap := h', toks := tk } ∧ Fr h₀ L h' m ∧ News h₀ L h' all ∧ (∀ p ∈ keep, p ∈ all) ∧ P y
theorem EltEnd.intro {keep all : List (Addr × Obj)} {P : Value → Prop} {s₁ : Shared} {y : Value} {h' : Heap} {tk : Nat} (F : Fr h₀ L h' m) (N : News h₀ L h' all) (hk : ∀ p ∈ keep, p ∈ all) (hp : P y) : EltEnd h₀ L m keep P s₁ y { s₁ with heap := h', toks := tk } :=
  ⟨h', tk, all, rfl, F, N, hk, hp⟩

/-- [table[..] for k in range(n)], n small -/
theorem comp_pick {env : Env} {elt : PySem.Expr} {x : Str} {scope : Scope} {cl : List (Str × Addr)} {r : Addr} {b : Int} {t u v : Tok} {Q : Value → Shared → Prop}
    (hh : A.handled = none) (F : Fr h₀ L s.heap m) (N : News h₀ L s.heap news) (hr : IsRange s.heap r 0 b 1 t u v) (hb1 : 1 ≤ b) (hb4 : b ≤ 4)
    (elt1 : ∀ (k : Int) tk' I oI C oC D ys m₂ h tk (E' : Value → Shared → Prop), 0 ≤ k → k < 4 → NsObj oC m₂ → m₂ x = some (.int k tk') → Fr h₀ L h m → News h₀ L h ((I, oI) :: (C, oC) :: (D, lst ys) :: news) → Off3 I C D news → ((@Ne Nat I C) ∧ (@Ne Nat I D) ∧ (@Ne Nat C D)) →
      wpAny (model prog w) A (eval elt (compEnvC scope cl C env)) (EltEnd h₀ L m ((I, oI) :: (C, oC) :: (D, lst ys) :: news) (fun y => ∃ j, j < 7 ∧ DatIn T2 y (tupD j)) { s with heap := h, toks := tk }) E' { s with heap := h, toks := tk })
    (fin : ∀ ys (d : List Nat) D h tk, okRow d → DatAll T2 ys (d.map tupD) → Fr h₀ L h m → News h₀ L h ((D, lst ys) :: news) → Off1 D news → Q (.ref D) { s with heap := h, toks := tk }) :
    CompSrc prog w A h₀ L m env elt x scope cl (fun s₂ => FinE h₀ L m s₂ Q) (.ref r) s := by
  have hn : Builtin.Range.rangeSize 0 b 1 = ((b.toNat : Nat) : Int) := by
    have := rangeSize_nat 0 b
    rw [this]
    simp
  refine CompSrc.range (n := b.toNat) hh F N hr (small_one (by omega) (by omega) (by omega) (by omega)) hn (by rw [sizeLine_eq]; omega) fun g => ?_
  refine compRest_ind (fun i ys nw => nw = news ∧ ∃ d : List Nat, d.length = i ∧ (∀ j ∈ d, j < 7) ∧ DatAll T2 ys (d.map tupD)) b.toNat ?_ ?_ b.toNat 0 [] news (Nat.zero_add _) ⟨rfl, [], rfl, (fun _ h => nomatch h), .nil⟩
  · rintro i ys nw v I oI C oC D m₂ h tk E' hi ⟨t', rfl⟩ ⟨rfl, d, rfl, hj, hd⟩ hC hx F' N' off ne
    refine wpAny_mono (elt1 _ t' I oI C oC D ys m₂ h tk E' (by omega) (by omega) hC hx F' N' off ne) (fun y s₂ he => ?_) fun _ _ e => e
    obtain ⟨h', tk', all, rfl, F₁, N₁, hk, j, hj7, hdj⟩ := he
    refine ⟨h', tk', nw, rfl, F₁, fun p hp => N₁ p (hk p hp), off, trivial, rfl, d ++ [j], by simp, ?_, ?_⟩
    · intro q hq
      rcases List.mem_append.mp hq with hq | hq
      · exact hj q hq
      · rw [List.mem_singleton.mp hq]; exact hj7
    · rw [List.map_append]
      exact hd.append (.one hdj)
  · rintro ys nw ⟨rfl, d, hl, hj, hd⟩ D h tk F' N' o1
    exact fin ys d D h tk ⟨by omega, by omega, hj⟩ hd F' N' o1
end
end Mine
end

/-! LawD -/
section
open PySem PySem.W PyProof.Rows PyProof.Rows.LCg PyProof.Rows.LCp
namespace Mine
set_option maxRecDepth 100000

/-- the new list stands apart -/
structure Apart (Dn R D cN cP cT cTb cX : Addr) (own : List (Addr × Obj)) : Prop where
  fixed : ∀ b ∈ [R, D, cN, cP, cT, cTb, cX], Dn ≠ b
  own : ∀ p ∈ own, p.1 ≠ Dn
theorem apartA {Dn tb R D cN cP cT cTb cX : Addr} {otb oR oD oN oP oT oTb oX : Obj} {T2 own : List (Addr × Obj)}
    (h : Off1 Dn ((tb, otb) :: (R, oR) :: (D, oD) :: (cN, oN) :: (cP, oP) :: (cT, oT) :: (cTb, oTb) :: (cX, oX) :: (T2 ++ own))) : Apart Dn R D cN cP cT cTb cX own := by
  have h' := off1_mem h
  refine ⟨fun b hb => ?_, fun p hp => h' p (by simp [hp])⟩
  simp only [List.mem_cons, List.not_mem_nil, or_false] at hb
  rcases hb with rfl | rfl | rfl | rfl | rfl | rfl | rfl
  · exact (h' (_, oR) (by simp)).symm
  · exact (h' (_, oD) (by simp)).symm
  · exact (h' (_, oN) (by simp)).symm
  · exact (h' (_, oP) (by simp)).symm
  · exact (h' (_, oT) (by simp)).symm
  · exact (h' (_, oTb) (by simp)).symm
  · exact (h' (_, oX) (by simp)).symm
theorem apartB {Dn tb R D cN cP cT cTb cX : Addr} {T2 own : List (Addr × Obj)}
    (h : @LT.lt Nat _ tb Dn ∧ @LT.lt Nat _ R Dn ∧ @LT.lt Nat _ D Dn ∧ @LT.lt Nat _ cN Dn ∧ @LT.lt Nat _ cP Dn ∧ @LT.lt Nat _ cT Dn ∧ @LT.lt Nat _ cTb Dn ∧ @LT.lt Nat _ cX Dn ∧ AllLt Dn (T2 ++ own)) : Apart Dn R D cN cP cT cTb cX own := by
  obtain ⟨_, h1, h2, h3, h4, h5, h6, h7, h8⟩ := h
  refine ⟨fun b hb => ?_, fun p hp => Nat.ne_of_lt (allLt_mem h8 p (by simp [hp]))⟩
  simp only [List.mem_cons, List.not_mem_nil, or_false] at hb
  rcases hb with rfl | rfl | rfl | rfl | rfl | rfl | rfl <;> (refine neN ?_; omega)

theorem rs_size {T : List (Addr × Obj)} {rs : List Value} {ds : List (List Nat)} (h : DatAll T rs (ds.map rowD)) (hl : ds.length < 7) : rs.toArray.size ≤ sizeLine := by
  have := h.length
  rw [List.size_toArray, this, List.length_map, sizeLine_eq]
  omega

theorem row4 {T : List (Addr × Obj)} {v0 v1 v2 v3 : Value} {j0 j1 j2 j3 : Nat} (h0 : DatIn T v0 (tupD j0)) (h1 : DatIn T v1 (tupD j1)) (h2 : DatIn T v2 (tupD j2)) (h3 : DatIn T v3 (tupD j3))
    (b0 : j0 < 7) (b1 : j1 < 7) (b2 : j2 < 7) (b3 : j3 < 7) : ∃ d, okRow d ∧ DatAll T [v0, v1, v2, v3] (d.map tupD) := by
  refine ⟨[j0, j1, j2, j3], ⟨by simp, by simp, fun j hj => ?_⟩, .cons h0 (.cons h1 (.cons h2 (.cons h3 .nil)))⟩
  simp only [List.mem_cons, List.not_mem_nil, or_false] at hj
  rcases hj with rfl | rfl | rfl | rfl <;> assumption

theorem turn1_end {h₀ h' : Heap} {L Dn tb R D cN cP cT cTb cX : Addr} {src otb oN oP oT oTb oX : Obj} {vTb vX : Option Value} {T2 own : List (Addr × Obj)} {ys rs : List Value} {k c tk : Nat} {d : List Nat} {ds : List (List Nat)} {v : Value} {u : Str → Option Value} {s₁ : Shared}
    (F : Fr h₀ L h' (fun y => if y = PySem.Str.ofString "numbers" then some v else if y = PySem.Str.ofString "rows" then some (.ref R) else u y))
    (N : News h₀ L h' ((Dn, listOf ys.toArray k) :: (tb, otb) :: (R, listOf (rs.toArray.push (.ref Dn)) c) :: (D, src) :: (cN, oN) :: (cP, oP) :: (cT, oT) :: (cTb, oTb) :: (cX, oX) :: (T2 ++ own)))
    (ap : Apart Dn R D cN cP cT cTb cX own) (hd : DatAll T2 ys (d.map tupD)) (okd : okRow d) (hrs : DatAll T2 rs (ds.map rowD)) (hok : ∀ d ∈ ds, okRow d)
    (f1 : OwnOff own [tb, R, D, cN, cP, cT, cTb, cX]) (f2 : OwnOff T2 [tb, R, D, cN, cP, cT, cTb, cX]) (f3 : OwnOff own (T2.map (·.1))) (hTb : oTb.data = .cell vTb) (hX : oX.data = .cell vX) :
    LoopEnd h₀ L own (J1 R D cN cP cT cTb cX src oN oP oT (ds.length + 1)) s₁ { s₁ with heap := h', toks := tk } := by
  have er : rs.toArray.push (.ref Dn) = (rs ++ [Value.ref Dn]).toArray := by simp
  rw [er] at N
  refine LoopEnd.intro ((R, listOf (rs ++ [Value.ref Dn]).toArray c) :: (D, src) :: (cN, oN) :: (cP, oP) :: (cT, oT) :: (cTb, oTb) :: (cX, oX) :: ((Dn, listOf ys.toArray k) :: T2)) F N ?_ ?_ ?_
  · intro p hp
    simp only [List.mem_cons, List.mem_append] at hp ⊢
    rcases hp with (h | h | h | h | h | h | h | h | h) | h <;> simp only [h, true_or, or_true]
  · intro p hp b hb
    simp only [List.map_cons, List.mem_cons] at hb
    rcases hb with rfl | rfl | rfl | rfl | rfl | rfl | rfl | rfl | hb
    · exact f1 p hp _ (by simp)
    · exact f1 p hp _ (by simp)
    · exact f1 p hp _ (by simp)
    · exact f1 p hp _ (by simp)
    · exact f1 p hp _ (by simp)
    · exact f1 p hp _ (by simp)
    · exact f1 p hp _ (by simp)
    · exact ap.own p hp
    · exact f3 p hp b hb
  · have mono : ∀ p ∈ T2, p ∈ (Dn, listOf ys.toArray k) :: T2 := fun p hp => .tail _ hp
    refine ⟨rs ++ [.ref Dn], c, ds ++ [d], oTb, oX, vTb, vX, _, (fun y => if y = PySem.Str.ofString "numbers" then some v else u y), rfl, by simp, ?_, ?_, ?_, hTb, hX, ?_⟩
    · intro q hq
      rcases List.mem_append.mp hq with hq | hq
      · exact hok q hq
      · rw [List.mem_singleton.mp hq]; exact okd
    · rw [List.map_append]
      exact (hrs.mono mono).append (.one (.list (List.mem_cons_self ..) (hd.mono mono)))
    · intro p hp b hb
      rcases List.mem_cons.mp hp with rfl | hp
      · exact ap.fixed b hb
      · exact f2 p hp b (.tail _ hb)
    · funext y
      by_cases h1 : y = PySem.Str.ofString "numbers"
      · subst h1
        simp [show PySem.Str.ofString "numbers" ≠ PySem.Str.ofString "rows" from by decide]
      · simp [h1]
end Mine
end

/-! LawE -/
section
open PySem PySem.W PyProof.Rows PyProof.Rows.LCg PyProof.Rows.LCp
namespace Mine
set_option maxRecDepth 100000

def textD (d : List Nat) : PySem.Str := Txt.join (PySem.Str.ofString ".") (d.map tx)
def padI (d : List Nat) : List Int := d.map vl ++ List.replicate (4 - d.length) 0

theorem strs_values : ∀ {vs : List Value} {xs : List PySem.Str}, PyProof.Rows.StrsAre vs xs → ∃ l : List (Str × Tok), vs = strValues l ∧ l.map (·.1) = xs
  | _, _, .nil => ⟨[], rfl, rfl⟩
  | _, _, .cons y t h => by
    obtain ⟨l, rfl, rfl⟩ := strs_values h
    exact ⟨(y, t) :: l, rfl, rfl⟩
theorem strs_append : ∀ {vs ws : List Value} {xs ys : List PySem.Str}, PyProof.Rows.StrsAre vs xs → PyProof.Rows.StrsAre ws ys → PyProof.Rows.StrsAre (vs ++ ws) (xs ++ ys)
  | _, _, _, _, .nil, k => k
  | _, _, _, _, .cons y t h, k => .cons y t (strs_append h k)
theorem ints_append : ∀ {vs ws : List Value} {xs ys : List Int}, IntsAre vs xs → IntsAre ws ys → IntsAre (vs ++ ws) (xs ++ ys)
  | _, _, _, _, .nil, k => k
  | _, _, _, _, .cons y t h, k => .cons y t (ints_append h k)

theorem tx_len (j : Nat) (h : j < 7) : (tx j).length ≤ 12 := by
  match j, h with
  | 0, _ => decide
  | 1, _ => decide
  | 2, _ => decide
  | 3, _ => decide
  | 4, _ => decide
  | 5, _ => decide
  | 6, _ => decide

theorem txs_sum : ∀ d : List Nat, (∀ j ∈ d, j < 7) → ((d.map tx).map (·.length)).sum ≤ 12 * d.length
  | [], _ => Nat.le_refl _
  | j :: r, h => by
    have h1 := tx_len j (h j (by simp))
    have h2 := txs_sum r fun q hq => h q (by simp [hq])
    simp only [List.map_cons, List.sum_cons, List.length_cons]
    omega

/-- what a tuple of the rows looks like -/
theorem tup_in {T : List (Addr × Obj)} {v : Value} {j : Nat} (h : DatIn T v (tupD j)) : ∃ (t : Addr) (ot : Obj) (v₁ v₂ : Value) (nt : Nat), v = .ref t ∧ (t, ot) ∈ T ∧ ot.cls = .type "tuple" ∧ ot.data = .seq #[v₁, v₂] nt ∧ (∃ k, v₁ = .int (vl j) k) ∧ (∃ k, v₂ = .str (tx j) k) := by
  unfold tupD at h
  cases h with
  | tuple hm hd =>
    cases hd with
    | cons h1 r =>
      cases r with
      | cons h2 r =>
        cases r
        cases h1
        cases h2
        exact ⟨_, _, _, _, _, rfl, hm, rfl, rfl, ⟨_, rfl⟩, ⟨_, rfl⟩⟩
theorem row_in {T : List (Addr × Obj)} {v : Value} {d : List Nat} (h : DatIn T v (rowD d)) : ∃ (a : Addr) (vs : List Value) (n : Nat), v = .ref a ∧ (a, listOf vs.toArray n) ∈ T ∧ DatAll T vs (d.map tupD) := by
  unfold rowD at h
  cases h with
  | list hm hd => exact ⟨_, _, _, rfl, hm, hd⟩

section
variable {prog : Program} {w : World} {A : Around} {E : Value → Shared → Prop} {s : Shared} {h₀ : Heap} {L : Addr} {m : Str → Option Value} {news : List (Addr × Obj)} {T : List (Addr × Obj)}

/-- ".".join over a made list of texts -/
theorem join_made {x : PySem.Str} {t : Tok} {D : Addr} {ys : List Value} {k : Nat} {xs : List PySem.Str} {Q : Value → Shared → Prop} (N : News h₀ L s.heap news) (hm : (D, listOf ys.toArray k) ∈ news) (hs : PyProof.Rows.StrsAre ys xs) (hok : JoinOk x xs = true)
    (h : ∀ t' k, Q (.str (Txt.join x xs) t') { s with toks := k }) : wpAny (model prog w) A (call (.builtin "str.join") [.str x t, .ref D]) Q E s := by
  obtain ⟨l, rfl, hl⟩ := strs_values hs
  exact SC.join ⟨_, (N _ hm).1, rfl, k, rfl⟩ hl hok h

theorem row_joinOk {d : List Nat} (h : okRow d) : JoinOk (PySem.Str.ofString ".") (d.map tx) = true := by
  refine joinOk_of ?_
  have h1 := txs_sum d h.2.2
  have h2 := h.2.1
  rw [List.length_map, show (PySem.Str.ofString ".").length = 1 from by decide]
  omega

/-- [text for value, text in numbers] and [value for value, text in numbers], numbers a row -/
theorem comp_row {env : Env} {elt : PySem.Expr} {x x₂ : Str} {scope : Scope} {cl : List (Str × Addr)} {a : Addr} {vs : List Value} {n : Nat} {d : List Nat} {Q : Value → Shared → Prop} (P : Nat → Value → Prop)
    (hh : A.handled = none) (F : Fr h₀ L s.heap m) (N : News h₀ L s.heap news) (hm : (a, listOf vs.toArray n) ∈ news) (hT : ∀ p ∈ T, p ∈ news) (hd : DatAll T vs (d.map tupD)) (okd : okRow d)
    (elt1 : ∀ (j : Nat) v₁ v₂ I oI C oC D ys m₂ h tk (E' : Value → Shared → Prop), j < 7 → (∃ k, v₁ = .int (vl j) k) → (∃ k, v₂ = .str (tx j) k) → NsObj oC m₂ → m₂ x = some v₁ → m₂ x₂ = some v₂ → Fr h₀ L h m → News h₀ L h ((I, oI) :: (C, oC) :: (D, lst ys) :: news) →
      wpAny (model prog w) A (eval elt (compEnvC scope cl C env)) (EltEnd h₀ L m ((I, oI) :: (C, oC) :: (D, lst ys) :: news) (P j) { s with heap := h, toks := tk }) E' { s with heap := h, toks := tk })
    (fin : ∀ ys D h tk, ys.length = d.length → (∀ (i j : Nat) v, d[i]? = some j → ys[i]? = some v → P j v) → Fr h₀ L h m → News h₀ L h ((D, lst ys) :: news) → Off1 D news → Q (.ref D) { s with heap := h, toks := tk }) :
    SrcLP prog w A h₀ L m env elt x x₂ scope cl (fun s₂ => FinE h₀ L m s₂ Q) (.ref a) s := by
  have hlen : vs.length = d.length := by rw [hd.length, List.length_map]
  refine SrcLP.ledger hh F N hm (by rw [List.size_toArray, sizeLine_eq, hlen]; have := okd.2.1; omega) fun g => ?_
  refine compRestP_ind (fun i ys nw => nw = news ∧ ys.length = i ∧ ∀ (i j : Nat) v, d[i]? = some j → ys[i]? = some v → P j v) vs.toArray.size ?_ ?_ vs.toArray.size 0 [] news (Nat.zero_add _) ⟨rfl, rfl, fun i j v _ h => by simp at h⟩
  · rintro i ys nw v hi hv ⟨rfl, hl, hp⟩
    have hi' : i < d.length := by simpa [hlen] using hi
    obtain ⟨v', hv', hdv⟩ := hd.get (k := i) (by simpa using hi')
    have hvv : vs[i]? = some v := by simpa using hv
    rw [hvv] at hv'
    obtain rfl := Option.some.inj hv'
    simp only [List.getElem_map] at hdv
    obtain ⟨t, ot, v₁, v₂, nt, rfl, hmt, hc, hda, h1, h2⟩ := tup_in hdv
    refine ⟨t, ot, v₁, v₂, nt, rfl, hT _ hmt, hc, hda, fun I oI C oC D m₂ h tk E' hC hx hy F' N' off ne => ?_⟩
    refine wpAny_mono (elt1 d[i] v₁ v₂ I oI C oC D ys m₂ h tk E' (okd.2.2 _ (List.getElem_mem hi')) h1 h2 hC hx hy F' N') (fun y s₂ he => ?_) fun _ _ e => e
    obtain ⟨h', tk', all, rfl, F₁, N₁, hk, hP⟩ := he
    refine ⟨h', tk', nw, rfl, F₁, fun p hp => N₁ p (hk p hp), off, .inr ⟨_, hm, rfl, _, rfl⟩, rfl, by simp [hl], ?_⟩
    intro i' j' v' e1 e2
    by_cases hlt : i' < ys.length
    · rw [List.getElem?_append_left hlt] at e2
      exact hp i' j' v' e1 e2
    · rw [List.getElem?_append_right (Nat.not_lt.mp hlt)] at e2
      have hz : i' - ys.length = 0 := by
        rcases Nat.eq_zero_or_pos (i' - ys.length) with h | h
        · exact h
        · rw [List.getElem?_eq_none (by simp only [List.length_cons, List.length_nil]; omega)] at e2; cases e2
      have hii : i' = i := by omega
      rw [hz] at e2
      simp only [List.getElem?_cons_zero, Option.some.injEq] at e2
      rw [hii, List.getElem?_eq_getElem hi'] at e1
      obtain rfl := Option.some.inj e1
      exact e2 ▸ hP
  · rintro ys nw ⟨rfl, hl, hp⟩ D h tk F' N' o1
    exact fin ys D h tk (by rw [hl, List.size_toArray, hlen]) hp F' N' o1

theorem strs_of {d : List Nat} {ys : List Value} (hl : ys.length = d.length) (hp : ∀ (i j : Nat) v, d[i]? = some j → ys[i]? = some v → ∃ k, v = .str (tx j) k) : PyProof.Rows.StrsAre ys (d.map tx) := by
  induction d generalizing ys with
  | nil => cases ys with | nil => exact .nil | cons _ _ => simp at hl
  | cons j d ih =>
    cases ys with
    | nil => simp at hl
    | cons v ys =>
      obtain ⟨k, rfl⟩ := hp 0 j v rfl rfl
      exact .cons _ _ (ih (by simpa using hl) fun i j' v' e1 e2 => hp (i + 1) j' v' (by simpa using e1) (by simpa using e2))
theorem ints_of {d : List Nat} {ys : List Value} (hl : ys.length = d.length) (hp : ∀ (i j : Nat) v, d[i]? = some j → ys[i]? = some v → ∃ k, v = .int (vl j) k) : IntsAre ys (d.map vl) := by
  induction d generalizing ys with
  | nil => cases ys with | nil => exact .nil | cons _ _ => simp at hl
  | cons j d ih =>
    cases ys with
    | nil => simp at hl
    | cons v ys =>
      obtain ⟨k, rfl⟩ := hp 0 j v rfl rfl
      exact .cons _ _ (ih (by simpa using hl) fun i j' v' e1 e2 => hp (i + 1) j' v' (by simpa using e1) (by simpa using e2))
end
end Mine
end

/-! LawF -/
section
open PySem PySem.W PyProof.Rows PyProof.Rows.LCg PyProof.Rows.LCp
namespace Mine
set_option maxRecDepth 100000

def padD (d : List Nat) : Dat := .list ((padI d).map .int)

/-- the end of an element that is a new list of ints -/
def EltNew (h₀ : Heap) (L : Addr) (m : Str → Option Value) (keep : List (Addr × Obj)) (ns : List Int) (s₁ : Shared) (y : Value) (s₂ : Shared) : Prop :=
  ∃ h' tk all a ws n, s₂ = { s₁ with heap := h', toks := tk } ∧ Fr h₀ L h' m ∧ News h₀ L h' all ∧ (∀ p ∈ keep, p ∈ all) ∧ y = .ref a ∧ (a, listOf ws.toArray n) ∈ all ∧ IntsAre ws ns ∧ ∀ p ∈ keep, p.1 ≠ a
theorem EltNew.intro {h₀ : Heap} {L : Addr} {m : Str → Option Value} {keep all : List (Addr × Obj)} {ns : List Int} {s₁ : Shared} {h' : Heap} {tk : Nat} {a : Addr} {ws : List Value} {n : Nat} (F : Fr h₀ L h' m) (N : News h₀ L h' all) (hk : ∀ p ∈ keep, p ∈ all)
    (hm : (a, listOf ws.toArray n) ∈ all) (hi : IntsAre ws ns) (ho : ∀ p ∈ keep, p.1 ≠ a) : EltNew h₀ L m keep ns s₁ (.ref a) { s₁ with heap := h', toks := tk } :=
  ⟨h', tk, all, a, ws, n, rfl, F, N, hk, rfl, hm, hi, ho⟩

theorem ints_dat {T : List (Addr × Obj)} : ∀ {ws : List Value} {ns : List Int}, IntsAre ws ns → DatAll T ws (ns.map .int)
  | _, _, .nil => .nil
  | _, _, .cons n t h => .cons (.int n t) (ints_dat h)

section
variable {prog : Program} {w : World} {A : Around} {E : Value → Shared → Prop} {s : Shared} {h₀ : Heap} {L : Addr} {m : Str → Option Value} {news T : List (Addr × Obj)} {env : Env} {elt : PySem.Expr} {x : Str} {scope : Scope} {cl : List (Str × Addr)} {R : Addr} {rs : List Value} {c : Nat} {ds : List (List Nat)} {Q : Value → Shared → Prop}

theorem rows_at (hd : DatAll T rs (ds.map rowD)) (hok : ∀ d ∈ ds, okRow d) {i : Nat} {v : Value} (hv : rs[i]? = some v) : ∃ d, ds[i]? = some d ∧ okRow d ∧ ∃ (a : Addr) (vs : List Value) (n : Nat), v = .ref a ∧ (a, listOf vs.toArray n) ∈ T ∧ DatAll T vs (d.map tupD) := by
  have hlen : rs.length = ds.length := by rw [hd.length, List.length_map]
  have hi : i < ds.length := hlen ▸ (List.getElem?_eq_some_iff.mp hv).1
  obtain ⟨v', hv', hdv⟩ := hd.get (k := i) (by simpa using hi)
  rw [hv] at hv'
  obtain rfl := Option.some.inj hv'
  simp only [List.getElem_map] at hdv
  exact ⟨ds[i], by simp [hi], hok _ (List.getElem_mem hi), row_in hdv⟩

/-- texts = [... for numbers in rows] -/
theorem comp_texts (hh : A.handled = none) (F : Fr h₀ L s.heap m) (N : News h₀ L s.heap news) (hm : (R, listOf rs.toArray c) ∈ news) (hT : ∀ p ∈ T, p ∈ news) (hd : DatAll T rs (ds.map rowD)) (hok : ∀ d ∈ ds, okRow d) (hlen : ds.length ≤ 7)
    (elt1 : ∀ d (a : Addr) (vs : List Value) (n : Nat) I oI C oC D ys m₂ h tk (E' : Value → Shared → Prop), okRow d → (a, listOf vs.toArray n) ∈ news → DatAll T vs (d.map tupD) → NsObj oC m₂ → m₂ x = some (.ref a) → Fr h₀ L h m → News h₀ L h ((I, oI) :: (C, oC) :: (D, lst ys) :: news) → Off3 I C D news → ((@Ne Nat I C) ∧ (@Ne Nat I D) ∧ (@Ne Nat C D)) →
      wpAny (model prog w) A (eval elt (compEnvC scope cl C env)) (EltEnd h₀ L m ((I, oI) :: (C, oC) :: (D, lst ys) :: news) (fun y => ∃ t, y = .str (textD d) t) { s with heap := h, toks := tk }) E' { s with heap := h, toks := tk })
    (fin : ∀ ys D h tk, PyProof.Rows.StrsAre ys (ds.map textD) → Fr h₀ L h m → News h₀ L h ((D, lst ys) :: news) → Off1 D news → Q (.ref D) { s with heap := h, toks := tk }) :
    CompSrc prog w A h₀ L m env elt x scope cl (fun s₂ => FinE h₀ L m s₂ Q) (.ref R) s := by
  have hl : rs.length = ds.length := by rw [hd.length, List.length_map]
  refine .inl ⟨R, rs.toArray, news, rfl, hh, F, N, .inr ⟨_, hm, rfl, _, rfl⟩, by rw [List.size_toArray, sizeLine_eq]; omega, ?_⟩
  rintro s₂ ⟨g, rfl⟩
  refine compRest_ind (fun i ys nw => nw = news ∧ PyProof.Rows.StrsAre ys ((ds.take i).map textD)) rs.toArray.size ?_ ?_ rs.toArray.size 0 [] news (Nat.zero_add _) ⟨rfl, .nil⟩
  · rintro i ys nw v I oI C oC D m₂ h tk E' hi hv ⟨rfl, hs⟩ hC hx F' N' off ne
    obtain ⟨d, hdi, okd, a, vs, n, rfl, hmt, hdt⟩ := rows_at hd hok (by simpa using hv)
    refine wpAny_mono (elt1 d a vs n I oI C oC D ys m₂ h tk E' okd (hT _ hmt) hdt hC hx F' N' off ne) (fun y s₂ he => ?_) fun _ _ e => e
    obtain ⟨h', tk', all, rfl, F₁, N₁, hk, t, rfl⟩ := he
    refine ⟨h', tk', nw, rfl, F₁, fun p hp => N₁ p (hk p hp), off, .inr ⟨_, hm, rfl, _, rfl⟩, rfl, ?_⟩
    rw [List.take_add_one, hdi, List.map_append]
    exact strs_append hs (.cons _ _ .nil)
  · rintro ys nw ⟨rfl, hs⟩
    rw [List.take_of_length_le (by rw [List.size_toArray]; omega)] at hs
    intro D h tk F' N' o1
    exact fin ys D h tk hs F' N' o1

/-- padded = [... for numbers in rows] -/
theorem comp_padded {fx : List (Addr × Obj)} (hh : A.handled = none) (F : Fr h₀ L s.heap m) (N : News h₀ L s.heap (fx ++ T)) (hm : (R, listOf rs.toArray c) ∈ fx) (hd : DatAll T rs (ds.map rowD)) (hok : ∀ d ∈ ds, okRow d) (hlen : ds.length ≤ 7)
    (elt1 : ∀ d (a : Addr) (vs : List Value) (n : Nat) G I oI C oC D ys m₂ h tk (E' : Value → Shared → Prop), okRow d → (a, listOf vs.toArray n) ∈ fx ++ (G ++ T) → DatAll T vs (d.map tupD) → (∀ p ∈ T, p ∈ fx ++ (G ++ T)) → NsObj oC m₂ → m₂ x = some (.ref a) → Fr h₀ L h m → News h₀ L h ((I, oI) :: (C, oC) :: (D, lst ys) :: (fx ++ (G ++ T))) → Off3 I C D (fx ++ (G ++ T)) → ((@Ne Nat I C) ∧ (@Ne Nat I D) ∧ (@Ne Nat C D)) →
      wpAny (model prog w) A (eval elt (compEnvC scope cl C env)) (EltNew h₀ L m ((I, oI) :: (C, oC) :: (D, lst ys) :: (fx ++ (G ++ T))) (padI d) { s with heap := h, toks := tk }) E' { s with heap := h, toks := tk })
    (fin : ∀ ys G D h tk, OwnOff G (fx.map (·.1)) → DatAll (G ++ T) ys (ds.map padD) → Fr h₀ L h m → News h₀ L h ((D, lst ys) :: (fx ++ (G ++ T))) → Off1 D (fx ++ (G ++ T)) → Q (.ref D) { s with heap := h, toks := tk }) :
    CompSrc prog w A h₀ L m env elt x scope cl (fun s₂ => FinE h₀ L m s₂ Q) (.ref R) s := by
  have hl : rs.length = ds.length := by rw [hd.length, List.length_map]
  refine .inl ⟨R, rs.toArray, fx ++ T, rfl, hh, F, N, .inr ⟨_, List.mem_append.mpr (.inl hm), rfl, _, rfl⟩, by rw [List.size_toArray, sizeLine_eq]; omega, ?_⟩
  rintro s₂ ⟨g, rfl⟩
  refine compRest_ind (fun i ys nw => ∃ G, nw = fx ++ (G ++ T) ∧ OwnOff G (fx.map (·.1)) ∧ DatAll (G ++ T) ys ((ds.take i).map padD)) rs.toArray.size ?_ ?_ rs.toArray.size 0 [] (fx ++ T) (Nat.zero_add _) ⟨[], rfl, (fun _ h => nomatch h), .nil⟩
  · rintro i ys nw v I oI C oC D m₂ h tk E' hi hv ⟨G, rfl, hG, hs⟩ hC hx F' N' off ne
    obtain ⟨d, hdi, okd, a, vs, n, rfl, hmt, hdt⟩ := rows_at hd hok (by simpa using hv)
    have hTn : ∀ p ∈ T, p ∈ fx ++ (G ++ T) := fun p hp => List.mem_append.mpr (.inr (List.mem_append.mpr (.inr hp)))
    refine wpAny_mono (elt1 d a vs n G I oI C oC D ys m₂ h tk E' okd (hTn _ hmt) hdt hTn hC hx F' N' off ne) (fun y s₂ he => ?_) fun _ _ e => e
    obtain ⟨h', tk', all, b, ws, k, rfl, F₁, N₁, hk, rfl, hb, hi', ho⟩ := he
    have off' := off.mem
    have ho' : ∀ p ∈ fx ++ (G ++ T), p.1 ≠ b := fun p hp => ho p (.tail _ (.tail _ (.tail _ hp)))
    refine ⟨h', tk', fx ++ ((b, listOf ws.toArray k) :: G ++ T), rfl, F₁, fun p hp => N₁ p ?_, Off3.of fun p hp => ?_, .inr ⟨_, List.mem_append.mpr (.inl hm), rfl, _, rfl⟩, (b, listOf ws.toArray k) :: G, rfl, ?_, ?_⟩
    · simp only [List.mem_cons, List.mem_append, List.cons_append] at hp
      rcases hp with h | h | h | h | h | h | h
      · exact hk p (by simp [h])
      · exact hk p (by simp [h])
      · exact hk p (by simp [h])
      · exact hk p (by simp [h])
      · exact h ▸ hb
      · exact hk p (by simp [h])
      · exact hk p (by simp [h])
    · simp only [List.mem_append, List.cons_append, List.mem_cons] at hp
      rcases hp with h | h | h | h
      · exact off' p (by simp [h])
      · rw [h]
        exact ⟨(ho (I, oI) (by simp)).symm, (ho (C, oC) (by simp)).symm, (ho (D, lst ys) (by simp)).symm⟩
      · exact off' p (by simp [h])
      · exact off' p (by simp [h])
    · intro p hp q hq
      rcases List.mem_cons.mp hp with rfl | hp
      · obtain ⟨r, hr, rfl⟩ := List.mem_map.mp hq
        exact (ho' r (by simp [hr])).symm
      · exact hG p hp q hq
    · rw [List.take_add_one, hdi, List.map_append]
      have mono : ∀ p ∈ G ++ T, p ∈ (b, listOf ws.toArray k) :: G ++ T := fun p hp => .tail _ hp
      exact (hs.mono mono).append (.one (.list (n := k) (List.mem_append.mpr (.inl (List.mem_cons_self ..))) (ints_dat hi')))
  · rintro ys nw ⟨G, rfl, hG, hs⟩
    rw [List.take_of_length_le (by rw [List.size_toArray]; omega)] at hs
    intro D h tk F' N' o1
    exact fin ys G D h tk hG hs F' N' o1
end
end Mine
end

/-! LawG -/
section
open PySem PySem.W PyProof.Rows PyProof.Rows.LCg PyProof.Rows.LCp
namespace Mine
set_option maxRecDepth 100000

theorem flat_one (k : Nat) : (List.replicate k [(0 : Int)]).flatten = List.replicate k 0 := by
  induction k with
  | zero => rfl
  | succ k ih => rw [List.replicate_succ, List.flatten_cons, ih, List.replicate_succ]; rfl

theorem EltNew.last {h₀ : Heap} {L : Addr} {m : Str → Option Value} {keep all : List (Addr × Obj)} {ns : List Int} {s₁ : Shared} {h' : Heap} {tk : Nat} {a : Addr} {ws : List Value} {n : Nat} (F : Fr h₀ L h' m) (N : News h₀ L h' ((a, listOf ws.toArray n) :: all)) (hlt : ∀ p ∈ all, p.1 < a) (hk : ∀ p ∈ keep, p ∈ all)
    (hi : IntsAre ws ns) : EltNew h₀ L m keep ns s₁ (.ref a) { s₁ with heap := h', toks := tk } :=
  EltNew.intro F N (fun p hp => .tail _ (hk p hp)) (List.mem_cons_self ..) hi fun p hp => Nat.ne_of_lt (hlt p (hk p hp))

theorem ownGT {G T : List (Addr × Obj)} {D R cN cP cT : Addr} {oD oR oN oP oT : Obj} (h : OwnOff G ([(D, oD), (R, oR), (cN, oN), (cP, oP), (cT, oT)].map (·.1))) (h2 : OwnOff T [R, cN, cP, cT]) : OwnOff (G ++ T) [R, cN, cP, cT] :=
  ownOff_append (fun p hp b hb => h p hp b (.tail _ hb)) h2

section
variable {prog : Program} {w : World} {A : Around} {E : Value → Shared → Prop} {s : Shared} {h₀ : Heap} {L : Addr} {m : Str → Option Value} {news : List (Addr × Obj)} {Q : Value → Shared → Prop} {d : List Nat}

theorem len_row {T : List (Addr × Obj)} {a : Addr} {vs : List Value} {n : Nat} (N : News h₀ L s.heap news) (hm : (a, listOf vs.toArray n) ∈ news) (hd : DatAll T vs (d.map tupD)) (okd : okRow d)
    (h : Q (.int ((d.length : Nat) : Int) (s.toks + 1)) { s with toks := s.toks + 1 + 1 }) : wpAny (model prog w) A (call (.builtin "len") [.ref a]) Q E s := by
  have hl : s.heap.IsList a vs.toArray := ⟨_, (N _ hm).1, rfl, n, rfl⟩
  have e : vs.toArray.size = d.length := by rw [List.size_toArray, hd.length, List.length_map]
  have := okd.2.1
  refine Calls.call_len_list hl (by rw [e]; omega) ?_
  rw [e]
  exact h

theorem mul_pad {l : Addr} {t : Tok} {k : Nat} {u : Tok} (F : Fr h₀ L s.heap m) (N : News h₀ L s.heap news) (hm : (l, listOf [Value.int 0 t].toArray k) ∈ news) (okd : okRow d)
    (h : ∀ D ws h', Fr h₀ L h' m → News h₀ L h' ((D, listOf (List.toArray ws) 0) :: news) → (∀ p ∈ news, p.1 < D) → IntsAre ws (List.replicate (4 - d.length) 0) → Q (.ref D) { s with heap := h' }) :
    wpAny (model prog w) A (binaryOp .Mult (.ref l) (.int (4 - ((d.length : Nat) : Int)) u)) Q E s := by
  have h1 := okd.2.1
  have hx : (4 - ((d.length : Nat) : Int)).toNat = 4 - d.length := by omega
  refine KM.mul (ns := [0]) F N ⟨_, (N _ hm).1, rfl, k, rfl⟩ (.cons 0 t .nil) (by omega) (by omega) (by rw [hx]; simp only [List.length_cons, List.length_nil]; omega) fun D h' F' N' l1 i1 _ _ _ _ _ => ?_
  rw [flat_one] at i1
  exact h D _ h' F' N' l1 (hx ▸ i1)

theorem add_pad {a b : Addr} {vs ws : List Value} {k1 k2 : Nat} (F : Fr h₀ L s.heap m) (N : News h₀ L s.heap news) (ha : (a, listOf vs.toArray k1) ∈ news) (hb : (b, listOf ws.toArray k2) ∈ news) (hi : IntsAre vs (d.map vl)) (hj : IntsAre ws (List.replicate (4 - d.length) 0)) (okd : okRow d)
    (h : ∀ D us h', Fr h₀ L h' m → News h₀ L h' ((D, listOf (List.toArray us) 0) :: news) → (∀ p ∈ news, p.1 < D) → IntsAre us (padI d) → Q (.ref D) { s with heap := h' }) :
    wpAny (model prog w) A (binaryOp .Add (.ref a) (.ref b)) Q E s := by
  have h1 := okd.2.1
  exact kmk_add_ints F N ⟨_, (N _ ha).1, rfl, k1, rfl⟩ ⟨_, (N _ hb).1, rfl, k2, rfl⟩ hi hj h (by rw [sizeLine_eq, List.length_map, List.length_replicate]; omega)
end
end Mine
end

/-! LawH -/
section
open PySem PySem.W PyProof.Rows PyProof.Rows.LCg PyProof.Rows.LCp
namespace Mine
set_option maxRecDepth 100000

def J2 (Dp Dt cN cP cT : Addr) (ysP ysT : List Value) (oP oT : Obj) (U : List (Addr × Obj)) (_ : Nat) (_ : Str → Option Value) (nx : List (Addr × Obj)) : Prop :=
  ∃ (oN : Obj) (vN : Option Value), nx = (Dp, lst ysP) :: (Dt, lst ysT) :: (cN, oN) :: (cP, oP) :: (cT, oT) :: U ∧ oN.data = .cell vN

theorem range_sz (n : Nat) : Builtin.Range.rangeSize 0 ((n : Nat) : Int) 1 = ((n : Nat) : Int) := by
  unfold Builtin.Range.rangeSize
  simp
  try omega
theorem range_small (n : Nat) (h : n ≤ 7) : Builtin.Range.small 0 ((n : Nat) : Int) 1 = true := by
  match n, h with
  | 0, _ => decide
  | 1, _ => decide
  | 2, _ => decide
  | 3, _ => decide
  | 4, _ => decide
  | 5, _ => decide
  | 6, _ => decide
  | 7, _ => decide

section
variable {prog : Program} {w : World} {A : Around} {E : Value → Shared → Prop} {s : Shared} {env : Env} {h₀ : Heap} {Q : Flow → Shared → Prop}

theorem len_rows {L : Addr} {news T : List (Addr × Obj)} {Q : Value → Shared → Prop} {R : Addr} {rs : List Value} {c : Nat} {ds : List (List Nat)}
    (N : News h₀ L s.heap news) (hm : (R, listOf rs.toArray c) ∈ news) (hd : DatAll T rs (ds.map rowD)) (hl : ds.length ≤ 7)
    (h : Q (.int ((ds.length : Nat) : Int) (s.toks + 1)) { s with toks := s.toks + 1 + 1 }) : wpAny (model prog w) A (call (.builtin "len") [.ref R]) Q E s := by
  have hl' : s.heap.IsList R rs.toArray := ⟨_, (N _ hm).1, rfl, c, rfl⟩
  have e : rs.toArray.size = ds.length := by rw [List.size_toArray, hd.length, List.length_map]
  refine Calls.call_len_list hl' (by rw [e]; omega) ?_
  rw [e]
  exact h

theorem loop2_intro {x : Str} {body : List Stmt} {r Dp Dt R cN cP cT : Addr} {t u v : Tok} {n : Nat} {ysP ysT rs : List Value} {c : Nat} {oN oP oT : Obj} {vN : Option Value} {U : List (Addr × Obj)} {m : Str → Option Value}
    (hr : IsRange s.heap r 0 ((n : Nat) : Int) 1 t u v) (hn : n ≤ 7) (hh : A.handled = none) (F : Fr h₀ env.locals s.heap m)
    (N : News h₀ env.locals s.heap ((Dp, lst ysP) :: (Dt, lst ysT) :: (R, listOf rs.toArray c) :: (cN, oN) :: (cP, oP) :: (cT, oT) :: U))
    (hU : OwnOff U [R, cN, cP, cT]) (hN : oN.data = .cell vN) (hE : PassesOwn (model prog w) A env E)
    (turn : ∀ (i : Nat) t (oN : Obj) (vN : Option Value) h tk (own : List (Addr × Obj)) (m : Str → Option Value), i < n → oN.data = .cell vN → OwnOff (U ++ own) [cN, cP, cT] → OwnOff own ([Dp, Dt, cN, cP, cT] ++ U.map (·.1)) → Fr h₀ env.locals h m →
      News h₀ env.locals h ((Dp, lst ysP) :: (Dt, lst ysT) :: (cN, oN) :: (cP, oP) :: (cT, oT) :: (U ++ own)) →
      wpAny (model prog w) A (storeName env x (.int ((i : Nat) : Int) t)) (fun _ s₂ => wpAny (model prog w) A (execs body env) (fun f s₃ => match f with
        | .ret v => Q (.ret v) s₃
        | .next => LoopEnd h₀ env.locals own (J2 Dp Dt cN cP cT ysP ysT oP oT U (i + 1)) { s with heap := h, toks := tk } s₃
        | _ => False) E s₂) E { s with heap := h, toks := tk })
    (done : ∀ m h tk, Fr h₀ env.locals h m → Q .next { s with heap := h, toks := tk }) :
    ForSrcR prog w A h₀ env x body Q E (.ref r) s := by
  refine ForSrcR.intro (n := n) (news := (Dp, lst ysP) :: (Dt, lst ysT) :: (cN, oN) :: (cP, oP) :: (cT, oT) :: U) (J2 Dp Dt cN cP cT ysP ysT oP oT U) hh F N ?_ hr (range_small n hn) (range_sz n) ⟨oN, vN, rfl, hN⟩ hE ?_ ?_
  · intro p hp
    simp only [List.mem_cons] at hp ⊢
    rcases hp with h | h | h | h | h | h <;> simp [h]
  · rintro g tk0 i v m₁ nx h tk own hi ⟨t, rfl⟩ ⟨oN', vN', rfl, hN'⟩ ho F₁ N₁
    have hU' : OwnOff U [cN, cP, cT] := fun p hp b hb => hU p hp b (.tail _ hb)
    have ho' : OwnOff own [cN, cP, cT] := fun p hp b hb => ho p hp b (by simp only [List.map_cons, List.mem_cons] at hb ⊢; simp only [List.not_mem_nil, or_false] at hb; rcases hb with rfl | rfl | rfl <;> simp)
    rw [Int.zero_add]
    exact turn i t oN' vN' h tk own m₁ hi hN' (ownOff_append hU' ho') ho F₁ N₁
  · rintro m₁ nx h tk _ F₁ _
    exact done m₁ h tk F₁

theorem turn2_end {h₀ h' : Heap} {L Dp Dt cN cP cT : Addr} {ysP ysT : List Value} {oN oP oT : Obj} {vN : Option Value} {U own all : List (Addr × Obj)} {m : Str → Option Value} {i tk : Nat} {s₁ : Shared}
    (F : Fr h₀ L h' m) (N : News h₀ L h' all) (hk : ∀ p ∈ (Dp, lst ysP) :: (Dt, lst ysT) :: (cN, oN) :: (cP, oP) :: (cT, oT) :: (U ++ own), p ∈ all) (ho : OwnOff own ([Dp, Dt, cN, cP, cT] ++ U.map (·.1))) (hN : oN.data = .cell vN) :
    LoopEnd h₀ L own (J2 Dp Dt cN cP cT ysP ysT oP oT U i) s₁ { s₁ with heap := h', toks := tk } :=
  LoopEnd.intro ((Dp, lst ysP) :: (Dt, lst ysT) :: (cN, oN) :: (cP, oP) :: (cT, oT) :: U) F N hk ho ⟨oN, vN, rfl, hN⟩
end
end Mine
end

/-! LtL -/
section
open PySem PySem.W PyProof.Rows PyProof.Rows.LCg PyProof.Rows.LCp
open PySem.AutoSeq1 (wpAny_loadPart')
namespace Mine
set_option maxRecDepth 100000

/-- lists of ints by order, of one length -/
noncomputable def ltL : List Int → List Int → Bool
  | x :: xs, y :: ys => if x = y then ltL xs ys else decide (x < y)
  | _, _ => false

theorem ltL_nil (a : List Int) : ltL a [] = false := by cases a <;> rfl

theorem lt_loop (l b : Addr) (vs us : List Value) (ns ms : List Int) (n n2 : Nat) (dd dd2 : Option Addr) (sl sl2 : Array (Option Value)) (hi : IntsAre vs ns) (hj : IntsAre us ms) (hlen : ns.length = ms.length) (k : Nat) :
    ∀ i : Nat, ns.length - i = k → Meets (Builtin.«list.__eq__.loop» ⟨[.ref l, .ref b, rawInt i, rawInt 0], []⟩)
      (fun _ R s => s.heap.get? l = some { cls := .type "list", dict := dd, data := .seq vs.toArray n, slots := sl } ∧ s.heap.get? b = some { cls := .type "list", dict := dd2, data := .seq us.toArray n2, slots := sl2 } ∧
        R (.ok (.ret (.bool (ltL (ns.drop i) (ms.drop i))))) s) := by
  have hv : vs.length = ns.length := hi.length
  have hu : us.length = ms.length := hj.length
  induction k with
  | zero =>
    intro i hk prog w A R s h
    obtain ⟨hp, g, d, tk, os⟩ := s; obtain ⟨hl, hb, h⟩ := h
    wp_walk using wpAny_loadPart' hl, wpAny_loadPart' hb
    have hi1 : vs.toArray[((i : Nat) : Int).toNat]? = none := by simp; omega
    have hi2 : us.toArray[((i : Nat) : Int).toNat]? = none := by simp; omega
    have hd : ns.drop i = [] := by simp; omega
    rw [hi1, hi2]
    wp_walk using wpAny_loadPart' hl, wpAny_loadPart' hb
    show R (.ok (.ret (.bool (decide (vs.toArray.size < us.toArray.size)))) ) _
    rw [hd] at h
    have : ¬ (vs.toArray.size < us.toArray.size) := by simp; omega
    rw [decide_eq_false this]
    exact h
  | succ k ih =>
    intro i hk prog w A R s h
    obtain ⟨hp, g, d, tk, os⟩ := s; obtain ⟨hl, hb, h⟩ := h
    have hlt : i < ns.length := by omega
    have hlt2 : i < ms.length := by omega
    obtain ⟨t1, e1⟩ := hi.get i ns[i] (by simp [hlt])
    obtain ⟨t2, e2⟩ := hj.get i ms[i] (by simp [hlt2])
    have hi1 : vs.toArray[((i : Nat) : Int).toNat]? = some (.int ns[i] t1) := by simpa using e1
    have hi2 : us.toArray[((i : Nat) : Int).toNat]? = some (.int ms[i] t2) := by simpa using e2
    have hc : ((i : Int) + 1) = ((i + 1 : Nat) : Int) := by push_cast; rfl
    rw [List.drop_eq_getElem_cons hlt, List.drop_eq_getElem_cons hlt2] at h
    simp only [ltL] at h
    wp_walk using wpAny_loadPart' hl, wpAny_loadPart' hb
    rw [hi1, hi2]
    refine wpAny_bind ((PySem.SeqAt.EqAt.int_int _ _ _ _) prog w _ _ ?_)
    by_cases hq : ns[i] = ms[i]
    · rw [if_pos hq] at h
      rw [show (ns[i] == ms[i]) = true from beq_iff_eq.mpr hq]
      wp_walk
      rw [hc]
      exact ⟨plainId_quiet PySem.MeetsSeq3.plain_eq_loop _, codeAny_builtin PySem.MeetsSeq3.entry_eq_loop (by
        rw [Around.under_plainId PySem.MeetsSeq3.plain_eq_loop _]
        exact ih (i + 1) (by omega) prog w A R _ ⟨hl, hb, h⟩)⟩
    · rw [if_neg hq] at h
      rw [show (ns[i] == ms[i]) = false from beq_eq_false_iff_ne.mpr hq]
      wp_walk using wpAny_loadPart' hl, wpAny_loadPart' hb
      rw [hi1, hi2]
      refine wpAny_bind (show wpAny _ _ (compareOp .Lt (.int ns[i] t1) (.int ms[i] t2)) _ _ _ from lt_int ?_)
      exact wpAny_pure h

theorem lt_at (l b : Addr) (vs us : List Value) (ns ms : List Int) (n n2 : Nat) (dd dd2 : Option Addr) (sl sl2 : Array (Option Value)) (hi : IntsAre vs ns) (hj : IntsAre us ms) (hlen : ns.length = ms.length) :
    Meets (Builtin.«list.__lt__» ⟨[.ref l, .ref b], []⟩)
      (fun _ R s => s.heap.get? l = some { cls := .type "list", dict := dd, data := .seq vs.toArray n, slots := sl } ∧ s.heap.get? b = some { cls := .type "list", dict := dd2, data := .seq us.toArray n2, slots := sl2 } ∧
        R (.ok (.ret (.bool (ltL ns ms)))) s) := by
  intro prog w A R s h
  obtain ⟨hp, g, d, tk, os⟩ := s; obtain ⟨hl, hb, h⟩ := h
  have f3 := AutoSeq1.sub_list_list
  wp_walk using wpAny_loadPart' hl, wpAny_loadPart' hb
  exact ⟨plainId_quiet PySem.MeetsSeq3.plain_eq_loop _, codeAny_builtin PySem.MeetsSeq3.entry_eq_loop (by
    rw [Around.under_plainId PySem.MeetsSeq3.plain_eq_loop _]
    exact lt_loop l b vs us ns ms n n2 dd dd2 sl sl2 hi hj hlen _ 0 rfl prog w A R _ ⟨hl, hb, by simpa using h⟩)⟩

theorem lt_lists {prog : Program} {w : World} {A : Around} {E : Value → Shared → Prop} {s : Shared} {l b : Addr} {vs us : List Value} {ns ms : List Int} {Q : Value → Shared → Prop}
    (h1 : s.heap.IsList l vs.toArray) (hi : IntsAre vs ns) (h2 : s.heap.IsList b us.toArray) (hj : IntsAre us ms) (hlen : ns.length = ms.length) (hu : A.units < cLine)
    (h : Q (.bool (ltL ns ms)) s) : wpAny (model prog w) A (compareOp .Lt (.ref l) (.ref b)) Q E s := by
  obtain ⟨⟨cls, dd, data, sl⟩, ho, hc, n, hd⟩ := id h1
  obtain ⟨⟨cls2, dd2, data2, sl2⟩, ho2, hc2, n2, hd2⟩ := id h2
  simp only at hc hd hc2 hd2
  subst hc hd hc2 hd2
  exact richCompare_meets_room (op := .Lt) ⟨_, ho, rfl⟩ ⟨_, ho2, rfl⟩ F.slot_list_lt F.entry_list_lt (F.args_list_lt_2 _ _) (lt_at l b vs us ns ms n n2 dd dd2 sl sl2 hi hj hlen)
    ⟨ho, ho2, show Value.bool (ltL ns ms) ≠ Value.notImplemented ∧ Q (.bool (ltL ns ms)) s from ⟨(fun x => nomatch x), h⟩⟩ hu

theorem gt_loop (l b : Addr) (vs us : List Value) (ns ms : List Int) (n n2 : Nat) (dd dd2 : Option Addr) (sl sl2 : Array (Option Value)) (hi : IntsAre vs ns) (hj : IntsAre us ms) (hlen : ns.length = ms.length) (k : Nat) :
    ∀ i : Nat, ns.length - i = k → Meets (Builtin.«list.__eq__.loop» ⟨[.ref l, .ref b, rawInt i, rawInt 4], []⟩)
      (fun _ R s => s.heap.get? l = some { cls := .type "list", dict := dd, data := .seq vs.toArray n, slots := sl } ∧ s.heap.get? b = some { cls := .type "list", dict := dd2, data := .seq us.toArray n2, slots := sl2 } ∧
        R (.ok (.ret (.bool (ltL (ms.drop i) (ns.drop i))))) s) := by
  have hv : vs.length = ns.length := hi.length
  have hu : us.length = ms.length := hj.length
  induction k with
  | zero =>
    intro i hk prog w A R s h
    obtain ⟨hp, g, d, tk, os⟩ := s; obtain ⟨hl, hb, h⟩ := h
    wp_walk using wpAny_loadPart' hl, wpAny_loadPart' hb
    have hi1 : vs.toArray[((i : Nat) : Int).toNat]? = none := by simp; omega
    have hi2 : us.toArray[((i : Nat) : Int).toNat]? = none := by simp; omega
    have hd : ms.drop i = [] := by simp; omega
    rw [hi1, hi2]
    wp_walk using wpAny_loadPart' hl, wpAny_loadPart' hb
    show R (.ok (.ret (.bool (decide (us.toArray.size < vs.toArray.size)))) ) _
    rw [hd] at h
    have : ¬ (us.toArray.size < vs.toArray.size) := by simp; omega
    rw [decide_eq_false this]
    exact h
  | succ k ih =>
    intro i hk prog w A R s h
    obtain ⟨hp, g, d, tk, os⟩ := s; obtain ⟨hl, hb, h⟩ := h
    have hlt : i < ns.length := by omega
    have hlt2 : i < ms.length := by omega
    obtain ⟨t1, e1⟩ := hi.get i ns[i] (by simp [hlt])
    obtain ⟨t2, e2⟩ := hj.get i ms[i] (by simp [hlt2])
    have hi1 : vs.toArray[((i : Nat) : Int).toNat]? = some (.int ns[i] t1) := by simpa using e1
    have hi2 : us.toArray[((i : Nat) : Int).toNat]? = some (.int ms[i] t2) := by simpa using e2
    have hc : ((i : Int) + 1) = ((i + 1 : Nat) : Int) := by push_cast; rfl
    rw [List.drop_eq_getElem_cons hlt, List.drop_eq_getElem_cons hlt2] at h
    simp only [ltL] at h
    wp_walk using wpAny_loadPart' hl, wpAny_loadPart' hb
    rw [hi1, hi2]
    refine wpAny_bind ((PySem.SeqAt.EqAt.int_int _ _ _ _) prog w _ _ ?_)
    by_cases hq : ns[i] = ms[i]
    · rw [if_pos hq.symm] at h
      rw [show (ns[i] == ms[i]) = true from beq_iff_eq.mpr hq]
      wp_walk
      rw [hc]
      exact ⟨plainId_quiet PySem.MeetsSeq3.plain_eq_loop _, codeAny_builtin PySem.MeetsSeq3.entry_eq_loop (by
        rw [Around.under_plainId PySem.MeetsSeq3.plain_eq_loop _]
        exact ih (i + 1) (by omega) prog w A R _ ⟨hl, hb, h⟩)⟩
    · rw [if_neg (fun c => hq c.symm)] at h
      rw [show (ns[i] == ms[i]) = false from beq_eq_false_iff_ne.mpr hq]
      wp_walk using wpAny_loadPart' hl, wpAny_loadPart' hb
      rw [hi1, hi2]
      refine wpAny_bind (show wpAny _ _ (compareOp .Gt (.int ns[i] t1) (.int ms[i] t2)) _ _ _ from gt_int ?_)
      exact wpAny_pure h

theorem gt_at (l b : Addr) (vs us : List Value) (ns ms : List Int) (n n2 : Nat) (dd dd2 : Option Addr) (sl sl2 : Array (Option Value)) (hi : IntsAre vs ns) (hj : IntsAre us ms) (hlen : ns.length = ms.length) :
    Meets (Builtin.«list.__gt__» ⟨[.ref l, .ref b], []⟩)
      (fun _ R s => s.heap.get? l = some { cls := .type "list", dict := dd, data := .seq vs.toArray n, slots := sl } ∧ s.heap.get? b = some { cls := .type "list", dict := dd2, data := .seq us.toArray n2, slots := sl2 } ∧
        R (.ok (.ret (.bool (ltL ms ns)))) s) := by
  intro prog w A R s h
  obtain ⟨hp, g, d, tk, os⟩ := s; obtain ⟨hl, hb, h⟩ := h
  have f3 := AutoSeq1.sub_list_list
  wp_walk using wpAny_loadPart' hl, wpAny_loadPart' hb
  exact ⟨plainId_quiet PySem.MeetsSeq3.plain_eq_loop _, codeAny_builtin PySem.MeetsSeq3.entry_eq_loop (by
    rw [Around.under_plainId PySem.MeetsSeq3.plain_eq_loop _]
    exact gt_loop l b vs us ns ms n n2 dd dd2 sl sl2 hi hj hlen _ 0 rfl prog w A R _ ⟨hl, hb, by simpa using h⟩)⟩

theorem gt_lists {prog : Program} {w : World} {A : Around} {E : Value → Shared → Prop} {s : Shared} {l b : Addr} {vs us : List Value} {ns ms : List Int} {Q : Value → Shared → Prop}
    (h1 : s.heap.IsList l vs.toArray) (hi : IntsAre vs ns) (h2 : s.heap.IsList b us.toArray) (hj : IntsAre us ms) (hlen : ns.length = ms.length) (hu : A.units < cLine)
    (h : Q (.bool (ltL ms ns)) s) : wpAny (model prog w) A (compareOp .Gt (.ref l) (.ref b)) Q E s := by
  obtain ⟨⟨cls, dd, data, sl⟩, ho, hc, n, hd⟩ := id h1
  obtain ⟨⟨cls2, dd2, data2, sl2⟩, ho2, hc2, n2, hd2⟩ := id h2
  simp only at hc hd hc2 hd2
  subst hc hd hc2 hd2
  exact richCompare_meets_room (op := .Gt) ⟨_, ho, rfl⟩ ⟨_, ho2, rfl⟩ F.slot_list_gt F.entry_list_gt (F.args_list_gt_2 _ _) (gt_at l b vs us ns ms n n2 dd dd2 sl sl2 hi hj hlen)
    ⟨ho, ho2, show Value.bool (ltL ms ns) ≠ Value.notImplemented ∧ Q (.bool (ltL ms ns)) s from ⟨(fun x => nomatch x), h⟩⟩ hu
end Mine
end

/-! LawI -/
section
open PySem PySem.W PyProof.Rows PyProof.Rows.LCg PyProof.Rows.LCp
namespace Mine
set_option maxRecDepth 100000

/-- what the law expects -/
noncomputable def gD (a b : List Nat) : Int := if ltL (padI a) (padI b) = true then 1 else if ltL (padI b) (padI a) = true then -1 else 0

theorem elt_lt {a b : List Nat} {t : Tok} (h : ltL (padI a) (padI b) = true) : ∃ k, Value.int 1 t = .int (gD a b) k := ⟨t, by rw [gD, if_pos h]⟩
theorem elt_gt {a b : List Nat} {t : Tok} (h : ltL (padI a) (padI b) = false) (h2 : ltL (padI b) (padI a) = true) : ∃ k, Value.int (-1) t = .int (gD a b) k := ⟨t, by rw [gD, if_neg (by rw [h]; decide), if_pos h2]⟩
theorem elt_eq {a b : List Nat} {t : Tok} (h : ltL (padI a) (padI b) = false) (h2 : ltL (padI b) (padI a) = false) : ∃ k, Value.int 0 t = .int (gD a b) k := ⟨t, by rw [gD, if_neg (by rw [h]; decide), if_neg (by rw [h2]; decide)]⟩
theorem dat_ints {T : List (Addr × Obj)} : ∀ {ns : List Int} {ws : List Value}, DatAll T ws (ns.map .int) → IntsAre ws ns
  | [], _, h => by cases h; exact .nil
  | n :: ns, _, h => by
    rw [List.map_cons] at h
    cases h with
    | cons h1 r =>
      cases h1
      exact .cons _ _ (dat_ints r)
theorem pad_in {T : List (Addr × Obj)} {v : Value} {d : List Nat} (h : DatIn T v (padD d)) : ∃ (a : Addr) (ws : List Value) (n : Nat), v = .ref a ∧ (a, listOf ws.toArray n) ∈ T ∧ IntsAre ws (padI d) := by
  unfold padD at h
  cases h with
  | list hm hd => exact ⟨_, _, _, rfl, hm, dat_ints hd⟩
theorem padI_len {d : List Nat} (h : okRow d) : (padI d).length = 4 := by
  have := h.2.1
  simp only [padI, List.length_append, List.length_map, List.length_replicate]
  omega

section
variable {prog : Program} {w : World} {A : Around} {E : Value → Shared → Prop} {s : Shared} {h₀ : Heap} {L : Addr} {m : Str → Option Value} {news T : List (Addr × Obj)} {ds : List (List Nat)} {i : Nat}

theorem item_text {value slice : PySem.Expr} {l : Addr} {its : List Value} {c : Nat} {u : Tok} {di : List Nat} {Q : Value → Shared → Prop} (N : News h₀ L s.heap news) (hm : (l, listOf its.toArray c) ∈ news) (hs : PyProof.Rows.StrsAre its (ds.map textD)) (hdi : ds[i]? = some di) (hl : ds.length ≤ 7)
    (h : ∀ t, Q (.str (textD di) t) s)
    (hsub : subscripted slice false (.ref l) (.int ((i : Nat) : Int) u) = operate [.ref l, .int ((i : Nat) : Int) u] (getItem (.ref l) (.int ((i : Nat) : Int) u)) := by with_unfolding_all rfl) :
    wpAny (model prog w) A (subscriptTail value slice (.ref l) (.int ((i : Nat) : Int) u)) Q E s := by
  obtain ⟨t, ht⟩ := hs.get i (textD di) (by rw [List.getElem?_map, hdi]; rfl)
  have hi : i < ds.length := (List.getElem?_eq_some_iff.mp hdi).1
  have hl' : s.heap.IsList l its.toArray := ⟨_, (N _ hm).1, rfl, c, rfl⟩
  exact tail_any hl'.typeIs slot_list_getitem.lookup (wpAny_getItem_list hl' (by omega) (by omega) (by simpa using ht) (h t)) hsub

theorem item_pad {value slice : PySem.Expr} {l : Addr} {its : List Value} {c : Nat} {u : Tok} {di : List Nat} {Q : Value → Shared → Prop} (N : News h₀ L s.heap news) (hm : (l, listOf its.toArray c) ∈ news) (hs : DatAll T its (ds.map padD)) (hT : ∀ p ∈ T, p ∈ news) (hdi : ds[i]? = some di) (hl : ds.length ≤ 7)
    (h : ∀ a ws n, (a, listOf (List.toArray ws) n) ∈ news → IntsAre ws (padI di) → Q (.ref a) s)
    (hsub : subscripted slice false (.ref l) (.int ((i : Nat) : Int) u) = operate [.ref l, .int ((i : Nat) : Int) u] (getItem (.ref l) (.int ((i : Nat) : Int) u)) := by with_unfolding_all rfl) :
    wpAny (model prog w) A (subscriptTail value slice (.ref l) (.int ((i : Nat) : Int) u)) Q E s := by
  have hi : i < ds.length := (List.getElem?_eq_some_iff.mp hdi).1
  obtain ⟨v, hv, hd⟩ := hs.get (k := i) (by simpa using hi)
  have e : (ds.map padD)[i]'(by simpa using hi) = padD di := by
    rw [List.getElem_map]
    exact congrArg padD (Option.some.inj ((List.getElem?_eq_getElem hi).symm.trans hdi))
  rw [e] at hd
  obtain ⟨a, ws, n, rfl, hma, hia⟩ := pad_in hd
  have hl' : s.heap.IsList l its.toArray := ⟨_, (N _ hm).1, rfl, c, rfl⟩
  exact tail_any hl'.typeIs slot_list_getitem.lookup (wpAny_getItem_list hl' (by omega) (by omega) (by simpa using hv) (h a ws n (hT _ hma) hia)) hsub

theorem lt_pad {l b : Addr} {vs us : List Value} {k1 k2 : Nat} {d e : List Nat} {Q : Value → Shared → Prop} (N : News h₀ L s.heap news) (ha : (l, listOf vs.toArray k1) ∈ news) (hb : (b, listOf us.toArray k2) ∈ news) (hi : IntsAre vs (padI d)) (hj : IntsAre us (padI e)) (okd : okRow d) (oke : okRow e) (hu : A.units < cLine)
    (h : Q (.bool (ltL (padI d) (padI e))) s) : wpAny (model prog w) A (compareOp .Lt (.ref l) (.ref b)) Q E s :=
  lt_lists ⟨_, (N _ ha).1, rfl, k1, rfl⟩ hi ⟨_, (N _ hb).1, rfl, k2, rfl⟩ hj ((padI_len okd).trans (padI_len oke).symm) hu h
theorem gt_pad {l b : Addr} {vs us : List Value} {k1 k2 : Nat} {d e : List Nat} {Q : Value → Shared → Prop} (N : News h₀ L s.heap news) (ha : (l, listOf vs.toArray k1) ∈ news) (hb : (b, listOf us.toArray k2) ∈ news) (hi : IntsAre vs (padI d)) (hj : IntsAre us (padI e)) (okd : okRow d) (oke : okRow e) (hu : A.units < cLine)
    (h : Q (.bool (ltL (padI e) (padI d))) s) : wpAny (model prog w) A (compareOp .Gt (.ref l) (.ref b)) Q E s :=
  gt_lists ⟨_, (N _ ha).1, rfl, k1, rfl⟩ hi ⟨_, (N _ hb).1, rfl, k2, rfl⟩ hj ((padI_len okd).trans (padI_len oke).symm) hu h

theorem ne_same {a b : Addr} {vs us : List Value} {k1 k2 : Nat} {ns ms : List Int} {Q : Value → Shared → Prop} (N : News h₀ L s.heap news) (ha : (a, listOf vs.toArray k1) ∈ news) (hb : (b, listOf us.toArray k2) ∈ news) (hi : IntsAre vs ns) (hi' : IntsAre us ms) (e : ns = ms) (hu : A.units + 64 < cLine)
    (h : Q (.bool false) s) : wpAny (model prog w) A (compareOp .NotEq (.ref a) (.ref b)) Q E s :=
  ne_intsK ⟨_, (N _ ha).1, rfl, k1, rfl⟩ hi ⟨_, (N _ hb).1, rfl, k2, rfl⟩ hi' hu (by rw [decide_eq_true e]; exact h)

section
variable {env : Env} {elt : PySem.Expr} {x : Str} {scope : Scope} {cl : List (Str × Addr)} {l : Addr} {vs : List Value} {c : Nat} {Q : Value → Shared → Prop}

/-- [compare_versions(.., text) for text in texts] -/
theorem comp_told {y : Str} {Q : Flow → Shared → Prop} {di : List Nat} (hdi₀ : ds[i]? = some di) (hh : A.handled = none) (F : Fr h₀ L s.heap m) (N : News h₀ L s.heap news) (hm : (l, listOf vs.toArray c) ∈ news) (hd : PyProof.Rows.StrsAre vs (ds.map textD)) (hok : ∀ d ∈ ds, okRow d) (hlen : ds.length ≤ 7)
    (elt1 : ∀ d t I oI C oC D ys m₂ h tk (E' : Value → Shared → Prop), okRow d → NsObj oC m₂ → m₂ x = some (.str (textD d) t) → Fr h₀ L h m → News h₀ L h ((I, oI) :: (C, oC) :: (D, lst ys) :: news) → Off3 I C D news → ((@Ne Nat I C) ∧ (@Ne Nat I D) ∧ (@Ne Nat C D)) →
      wpAny (model prog w) A (eval elt (compEnvC scope cl C env)) (EltEnd h₀ L m ((I, oI) :: (C, oC) :: (D, lst ys) :: news) (fun y => ∃ k, y = .int (cmpV (textD di) (textD d)) k) { s with heap := h, toks := tk }) E' { s with heap := h, toks := tk })
    (fin : ∀ ys D h tk, IntsAre ys (ds.map fun d => cmpV (textD di) (textD d)) → Fr h₀ L h (fun z => if z = y then some (.ref D) else m z) → News h₀ L h ((D, lst ys) :: news) → Off1 D news → Q .next { s with heap := h, toks := tk }) :
    CompSrc prog w A h₀ L m env elt x scope cl (fun s₂ => FinA h₀ L m s₂ y Q) (.ref l) s := by
  have hl : vs.length = ds.length := by rw [hd.length, List.length_map]
  refine .inl ⟨l, vs.toArray, news, rfl, hh, F, N, .inr ⟨_, hm, rfl, _, rfl⟩, by rw [List.size_toArray, sizeLine_eq]; omega, ?_⟩
  rintro s₂ ⟨g, rfl⟩
  refine compRest_ind (fun i ys nw => nw = news ∧ IntsAre ys ((ds.take i).map fun d => cmpV (textD di) (textD d))) vs.toArray.size ?_ ?_ vs.toArray.size 0 [] news (Nat.zero_add _) ⟨rfl, .nil⟩
  · rintro i ys nw v I oI C oC D m₂ h tk E' hi hv ⟨rfl, hs⟩ hC hx F' N' off ne
    have hi' : i < ds.length := by simpa [hl] using hi
    obtain ⟨t, ht⟩ := hd.get i (textD ds[i]) (by rw [List.getElem?_map, List.getElem?_eq_getElem hi']; rfl)
    have hv' : vs[i]? = some v := by simpa using hv
    rw [hv'] at ht
    obtain rfl := Option.some.inj ht
    refine wpAny_mono (elt1 ds[i] t I oI C oC D ys m₂ h tk E' (hok _ (List.getElem_mem hi')) hC hx F' N' off ne) (fun y s₂ he => ?_) fun _ _ e => e
    obtain ⟨h', tk', all, rfl, F₁, N₁, hk, t, rfl⟩ := he
    refine ⟨h', tk', nw, rfl, F₁, fun p hp => N₁ p (hk p hp), off, .inr ⟨_, hm, rfl, _, rfl⟩, rfl, ?_⟩
    rw [List.take_add_one, List.getElem?_eq_getElem hi', List.map_append]
    exact ints_append hs (.cons _ _ .nil)
  · rintro ys nw ⟨rfl, hs⟩
    rw [List.take_of_length_le (by rw [List.size_toArray]; omega)] at hs
    intro D h tk F' N' o1
    exact fin ys D h tk hs F' N' o1

/-- [.. for other in padded] -/
theorem comp_exp {di : List Nat} (hdi₀ : ds[i]? = some di) (hh : A.handled = none) (F : Fr h₀ L s.heap m) (N : News h₀ L s.heap news) (hm : (l, listOf vs.toArray c) ∈ news) (hT : ∀ p ∈ T, p ∈ news) (hd : DatAll T vs (ds.map padD)) (hok : ∀ d ∈ ds, okRow d) (hlen : ds.length ≤ 7)
    (elt1 : ∀ d (a : Addr) (ws : List Value) (n : Nat) I oI C oC D ys m₂ h tk (E' : Value → Shared → Prop), okRow d → (a, listOf ws.toArray n) ∈ news → IntsAre ws (padI d) → NsObj oC m₂ → m₂ x = some (.ref a) → Fr h₀ L h m → News h₀ L h ((I, oI) :: (C, oC) :: (D, lst ys) :: news) → Off3 I C D news → ((@Ne Nat I C) ∧ (@Ne Nat I D) ∧ (@Ne Nat C D)) →
      wpAny (model prog w) A (eval elt (compEnvC scope cl C env)) (EltEnd h₀ L m ((I, oI) :: (C, oC) :: (D, lst ys) :: news) (fun y => ∃ k, y = .int (gD di d) k) { s with heap := h, toks := tk }) E' { s with heap := h, toks := tk })
    (fin : ∀ ys D h tk, IntsAre ys (ds.map (gD di)) → Fr h₀ L h m → News h₀ L h ((D, lst ys) :: news) → Off1 D news → Q (.ref D) { s with heap := h, toks := tk }) :
    CompSrc prog w A h₀ L m env elt x scope cl (fun s₂ => FinE h₀ L m s₂ Q) (.ref l) s := by
  have hl : vs.length = ds.length := by rw [hd.length, List.length_map]
  refine .inl ⟨l, vs.toArray, news, rfl, hh, F, N, .inr ⟨_, hm, rfl, _, rfl⟩, by rw [List.size_toArray, sizeLine_eq]; omega, ?_⟩
  rintro s₂ ⟨g, rfl⟩
  refine compRest_ind (fun i ys nw => nw = news ∧ IntsAre ys ((ds.take i).map (gD di))) vs.toArray.size ?_ ?_ vs.toArray.size 0 [] news (Nat.zero_add _) ⟨rfl, .nil⟩
  · rintro i ys nw v I oI C oC D m₂ h tk E' hi hv ⟨rfl, hs⟩ hC hx F' N' off ne
    have hi' : i < ds.length := by simpa [hl] using hi
    obtain ⟨v', hv', hdv⟩ := hd.get (k := i) (by simpa using hi')
    have hv2 : vs[i]? = some v := by simpa using hv
    rw [hv2] at hv'
    obtain rfl := Option.some.inj hv'
    simp only [List.getElem_map] at hdv
    obtain ⟨a, ws, n, rfl, hma, hia⟩ := pad_in hdv
    refine wpAny_mono (elt1 ds[i] a ws n I oI C oC D ys m₂ h tk E' (hok _ (List.getElem_mem hi')) (hT _ hma) hia hC hx F' N' off ne) (fun y s₂ he => ?_) fun _ _ e => e
    obtain ⟨h', tk', all, rfl, F₁, N₁, hk, t, rfl⟩ := he
    refine ⟨h', tk', nw, rfl, F₁, fun p hp => N₁ p (hk p hp), off, .inr ⟨_, hm, rfl, _, rfl⟩, rfl, ?_⟩
    rw [List.take_add_one, List.getElem?_eq_getElem hi', List.map_append]
    exact ints_append hs (.cons _ _ .nil)
  · rintro ys nw ⟨rfl, hs⟩
    rw [List.take_of_length_le (by rw [List.size_toArray]; omega)] at hs
    intro D h tk F' N' o1
    exact fin ys D h tk hs F' N' o1
end
end
end Mine
end

/-! LawP -/
section
open PySem PySem.W PyProof.Rows PyProof.Rows.LCg PyProof.Rows.LCp
namespace Mine
set_option maxRecDepth 100000

/-! the plain law -/
noncomputable def joinL (c : Nat) : List (List Nat) → List Nat
  | [] => []
  | [x] => x
  | x :: y :: r => x ++ c :: joinL c (y :: r)

theorem joinL_first {c : Nat} {x : List Nat} {r : List (List Nat)} : joinL c (x :: r) = match r with | [] => x | y :: q => x ++ c :: joinL c (y :: q) := by
  cases r <;> rfl

theorem free_append {c : Nat} : ∀ {x y u v : List Nat}, c ∉ x → c ∉ y → x ++ c :: u = y ++ c :: v → x = y ∧ u = v
  | [], [], _, _, _, _, h => ⟨rfl, by simpa using h⟩
  | [], b :: y, _, _, _, hy, h => by
    simp only [List.nil_append, List.cons_append, List.cons.injEq] at h
    exact absurd (h.1 ▸ List.mem_cons_self ..) hy
  | a :: x, [], _, _, hx, _, h => by
    simp only [List.nil_append, List.cons_append, List.cons.injEq] at h
    exact absurd (h.1 ▸ List.mem_cons_self ..) hx
  | a :: x, b :: y, _, _, hx, hy, h => by
    simp only [List.cons_append, List.cons.injEq] at h
    obtain ⟨rfl, h⟩ := h
    obtain ⟨rfl, e⟩ := free_append (fun m => hx (List.mem_cons_of_mem _ m)) (fun m => hy (List.mem_cons_of_mem _ m)) h
    exact ⟨rfl, e⟩

theorem joinL_inj (c : Nat) : ∀ (ps qs : List (List Nat)), ps ≠ [] → qs ≠ [] → (∀ p ∈ ps, c ∉ p) → (∀ q ∈ qs, c ∉ q) → joinL c ps = joinL c qs → ps = qs
  | [], _, h, _, _, _, _ => absurd rfl h
  | _ :: _, [], _, h, _, _, _ => absurd rfl h
  | [x], [y], _, _, _, _, h => by rw [show x = y from h]
  | [x], y :: z :: r, _, _, hx, _, h => by
    have h : x = y ++ c :: joinL c (z :: r) := h
    exact absurd (h ▸ by simp) (hx x (by simp))
  | x :: y :: r, [z], _, _, _, hz, h => by
    have h : x ++ c :: joinL c (y :: r) = z := h
    exact absurd (h ▸ by simp) (hz z (by simp))
  | x :: y :: r, z :: u :: q, _, _, hp, hq, h => by
    have h : x ++ c :: joinL c (y :: r) = z ++ c :: joinL c (u :: q) := h
    obtain ⟨rfl, e⟩ := free_append (hp x (by simp)) (hq z (by simp)) h
    rw [joinL_inj c (y :: r) (u :: q) (by simp) (by simp) (fun p hm => hp p (by simp [hm])) (fun p hm => hq p (by simp [hm])) e]

theorem join_list (c : Nat) : ∀ parts : List PySem.Str, (Str.join ⟨#[c]⟩ parts).cps.toList = joinL c (parts.map fun p => p.cps.toList)
  | [] => rfl
  | [x] => rfl
  | x :: y :: r => by
    have ih := join_list c (y :: r)
    show (x ++ ⟨#[c]⟩ ++ Str.join ⟨#[c]⟩ (y :: r)).cps.toList = x.cps.toList ++ c :: joinL c ((y :: r).map fun p => p.cps.toList)
    rw [← ih]
    simp [Str.cps_append]

theorem cnt_ge0 (c : Nat) : ∀ l : List Nat, 0 ≤ cnt c l
  | [] => by rw [cnt_nil]; omega
  | n :: r => by
    have := cnt_ge0 c r
    rw [cnt_cons]
    split <;> omega

theorem split_join {c : Nat} {parts : List PySem.Str} (hne : parts ≠ []) (hf : ∀ p ∈ parts, c ∉ p.cps.toList) : Txt.split (Str.join ⟨#[c]⟩ parts) ⟨#[c]⟩ = parts := by
  have h1 := StrLaws.join_split (Str.join ⟨#[c]⟩ parts) ⟨#[c]⟩
  have h2 := StrLaws.split_free (Str.join ⟨#[c]⟩ parts) c
  have h3 := split_len (Str.join ⟨#[c]⟩ parts) c
  have h4 : Txt.split (Str.join ⟨#[c]⟩ parts) ⟨#[c]⟩ ≠ [] := by
    intro e
    rw [e] at h3
    have : 0 ≤ cnt c (Str.join ⟨#[c]⟩ parts).cps.toList := cnt_ge0 c _
    simp only [List.length_nil] at h3
    omega
  generalize Txt.split (Str.join ⟨#[c]⟩ parts) ⟨#[c]⟩ = qs at *
  have e := congrArg (fun s : PySem.Str => s.cps.toList) h1
  simp only [join_list] at e
  have e2 := joinL_inj c _ _ (by simpa using h4) (by simpa using hne) (fun p hp => by obtain ⟨q, hq, rfl⟩ := List.mem_map.mp hp; exact h2 q hq) (fun p hp => by obtain ⟨q, hq, rfl⟩ := List.mem_map.mp hp; exact hf q hq) e
  have inj : ∀ (a b : List PySem.Str), (a.map fun p => p.cps.toList) = (b.map fun p => p.cps.toList) → a = b := by
    intro a
    induction a with
    | nil => intro b h; cases b with | nil => rfl | cons _ _ => simp at h
    | cons x a ih =>
      intro b h
      cases b with
      | nil => simp at h
      | cons y b =>
        simp only [List.map_cons, List.cons.injEq] at h
        rw [ih b h.2, Str.ext' (Array.toList_inj.mp h.1)]
  exact inj _ _ e2

theorem dot : Str.ofString "." = ⟨#[46]⟩ := by decide

/-- a row of the law, or one with zeros behind -/
structure Wide7 (d : List Nat) : Prop where
  one : 1 ≤ d.length
  seven : d.length ≤ 7
  all : ∀ j ∈ d, j < 7

theorem tx_facts (j : Nat) (h : j < 7) : 46 ∉ (tx j).cps.toList ∧ PySem.intText? (tx j) = some (vl j) := by
  match j, h with
  | 0, _ => decide +kernel
  | 1, _ => decide +kernel
  | 2, _ => decide +kernel
  | 3, _ => decide +kernel
  | 4, _ => decide +kernel
  | 5, _ => decide +kernel
  | 6, _ => decide +kernel

theorem textD_join (d : List Nat) : textD d = Str.join ⟨#[46]⟩ (d.map tx) := by
  unfold textD Txt.join
  rw [StrLaws.glued_eq_join, dot]

theorem split_text {d : List Nat} (h : Wide7 d) : Txt.split (textD d) (Str.ofString ".") = d.map tx := by
  rw [textD_join, dot]
  refine split_join ?_ ?_
  · intro e
    have := h.one
    rw [List.map_eq_nil_iff.mp e] at this
    simp at this
  · intro p hp
    obtain ⟨j, hj, rfl⟩ := List.mem_map.mp hp
    exact (tx_facts j (h.all j hj)).1

theorem okV_text {d : List Nat} (h : Wide7 d) : okV (textD d) := by
  refine ⟨?_, fun t ht => ?_⟩
  · have h1 := StrLaws.join_length_le ⟨#[46]⟩ (d.map tx)
    have h2 := txs_sum d h.all
    have h3 := h.seven
    rw [List.length_map, show (⟨#[46]⟩ : PySem.Str).length = 1 from rfl] at h1
    rw [textD_join]
    omega
  · rw [split_text h] at ht
    obtain ⟨j, hj, rfl⟩ := List.mem_map.mp ht
    rw [(tx_facts j (h.all j hj)).2]
    rfl

theorem nums_text {d : List Nat} (h : Wide7 d) : numsV (textD d) = d.map vl := by
  unfold numsV
  rw [split_text h, List.map_map]
  refine List.map_congr_left fun j hj => ?_
  show (PySem.intText? (tx j)).getD 0 = vl j
  rw [(tx_facts j (h.all j hj)).2]
  rfl

theorem okRow.wide {d : List Nat} (h : okRow d) : Wide7 d := ⟨h.1, by have := h.2.1; omega, h.2.2⟩
theorem ok_text {d : List Nat} (h : okRow d) : okV (textD d) := okV_text h.wide

theorem cmpL_self : ∀ a : List Int, cmpL a a = 0
  | [] => rfl
  | x :: xs => by simp only [cmpL, Int.lt_irrefl, if_false]; exact cmpL_self xs
theorem cmpL_zeros (k : Nat) : ∀ (a b : List Int), a.length = b.length → cmpL (a ++ List.replicate k 0) (b ++ List.replicate k 0) = cmpL a b
  | [], [], _ => by simp only [List.nil_append, cmpL_self]
  | x :: xs, y :: ys, h => by
    have ih := cmpL_zeros k xs ys (by simpa using h)
    simp only [List.cons_append, cmpL, ih]
theorem cmpL_ltL : ∀ (a b : List Int), a.length = b.length → cmpL a b = if ltL a b = true then 1 else if ltL b a = true then -1 else 0
  | [], [], _ => rfl
  | x :: xs, y :: ys, h => by
    have ih := cmpL_ltL xs ys (by simpa using h)
    by_cases e : x = y
    · subst e
      have a1 : ltL (x :: xs) (x :: ys) = ltL xs ys := if_pos rfl
      have a2 : ltL (x :: ys) (x :: xs) = ltL ys xs := if_pos rfl
      have a3 : cmpL (x :: xs) (x :: ys) = cmpL xs ys := by simp only [cmpL, Int.lt_irrefl, if_false]
      rw [a1, a2, a3]
      exact ih
    · have e' : ¬ y = x := fun q => e q.symm
      have a1 : ltL (x :: xs) (y :: ys) = decide (x < y) := if_neg e
      have a2 : ltL (y :: ys) (x :: xs) = decide (y < x) := if_neg e'
      rw [a1, a2]
      by_cases h1 : y < x
      · have h2 : ¬ x < y := by omega
        rw [decide_eq_true h1, decide_eq_false h2]
        exact if_pos h1
      · have h2 : x < y := by omega
        rw [decide_eq_true h2]
        exact (if_neg h1).trans (if_pos h2)

theorem padTo_pad {a : List Int} {n : Nat} (h1 : n ≤ 4) (h2 : a.length ≤ 4) : padTo n a ++ List.replicate (4 - max n a.length) 0 = a ++ List.replicate (4 - a.length) 0 := by
  unfold padTo
  rw [List.append_assoc, List.replicate_append_replicate]
  congr 2
  omega

theorem cmp_gD {d e : List Nat} (h : okRow d) (k : okRow e) : cmpV (textD d) (textD e) = gD d e := by
  unfold cmpV gD
  rw [nums_text h.wide, nums_text k.wide, ← cmpL_ltL _ _ ((padI_len h).trans (padI_len k).symm)]
  have h1 := h.2.1
  have k1 := k.2.1
  rw [List.length_map, List.length_map]
  have e1 : padI d = padTo e.length (d.map vl) ++ List.replicate (4 - max e.length d.length) 0 := by
    have := padTo_pad (a := d.map vl) (n := e.length) k1 (by simpa using h1)
    rw [List.length_map] at this
    rw [this]
    rfl
  have e2 : padI e = padTo d.length (e.map vl) ++ List.replicate (4 - max e.length d.length) 0 := by
    have := padTo_pad (a := e.map vl) (n := d.length) h1 (by simpa using k1)
    rw [List.length_map, Nat.max_comm] at this
    rw [this]
    rfl
  rw [e1, e2, cmpL_zeros]
  simp only [padTo, List.length_append, List.length_map, List.length_replicate]
  omega

theorem told_eq {ds : List (List Nat)} {di : List Nat} (hok : ∀ d ∈ ds, okRow d) (okdi : okRow di) : ds.map (fun d => cmpV (textD di) (textD d)) = ds.map (gD di) := List.map_congr_left fun d hd => cmp_gD okdi (hok d hd)

theorem join_snoc {sep z : PySem.Str} : ∀ {parts : List PySem.Str}, parts ≠ [] → Str.join sep (parts ++ [z]) = Str.join sep parts ++ (sep ++ z)
  | [], h => absurd rfl h
  | [x], _ => by show x ++ sep ++ z = x ++ (sep ++ z); rw [Str.append_assoc]
  | x :: y :: r, _ => by
    have ih := join_snoc (sep := sep) (z := z) (parts := y :: r) (by simp)
    show x ++ sep ++ Str.join sep (y :: r ++ [z]) = x ++ sep ++ Str.join sep (y :: r) ++ (sep ++ z)
    rw [ih, Str.append_assoc (x ++ sep)]

theorem textD_snoc {d : List Nat} (h : d ≠ []) : textD (d ++ [0]) = textD d ++ Str.ofString ".0" := by
  rw [textD_join, textD_join, List.map_append, List.map_singleton, join_snoc (by simpa using h)]
  rw [show (⟨#[46]⟩ : PySem.Str) ++ tx 0 = Str.ofString ".0" from by decide]

theorem zeros_is (i : Nat) {d : List Nat} (h : d ≠ []) : ∃ k, 1 ≤ k ∧ k ≤ 3 ∧ textD d ++ Txt.mul (Str.ofString ".0") (1 + ((i : Nat) : Int).fmod 3) = textD (d ++ List.replicate k 0) := by
  have h0 : 0 ≤ ((i : Nat) : Int).fmod 3 := Int.fmod_nonneg_of_pos _ (by omega)
  have h3 : ((i : Nat) : Int).fmod 3 < 3 := Int.fmod_lt_of_pos _ (by omega)
  generalize ((i : Nat) : Int).fmod 3 = q at *
  have s1 := textD_snoc h
  have s2 := textD_snoc (d := d ++ [0]) (by simp)
  have s3 := textD_snoc (d := d ++ [0] ++ [0]) (by simp)
  have hq : q = 0 ∨ q = 1 ∨ q = 2 := by omega
  rcases hq with rfl | rfl | rfl
  · refine ⟨1, by omega, by omega, ?_⟩
    rw [show List.replicate 1 0 = [0] from rfl, s1]
    rw [show Txt.mul (Str.ofString ".0") (1 + 0) = Str.ofString ".0" from by decide]
  · refine ⟨2, by omega, by omega, ?_⟩
    rw [show d ++ List.replicate 2 0 = d ++ [0] ++ [0] from by simp [List.replicate], s2, s1, Str.append_assoc]
    rw [show Txt.mul (Str.ofString ".0") (1 + 1) = Str.ofString ".0" ++ Str.ofString ".0" from by decide]
  · refine ⟨3, by omega, by omega, ?_⟩
    rw [show d ++ List.replicate 3 0 = d ++ [0] ++ [0] ++ [0] from by simp [List.replicate], s3, s2, s1, Str.append_assoc, Str.append_assoc]
    rw [show Txt.mul (Str.ofString ".0") (1 + 2) = Str.ofString ".0" ++ (Str.ofString ".0" ++ Str.ofString ".0") from by decide]

theorem okRow.ne {d : List Nat} (h : okRow d) : d ≠ [] := by
  rintro rfl
  have := h.1
  simp at this
theorem okRow.wider {d : List Nat} (h : okRow d) {k : Nat} (hk : k ≤ 3) : Wide7 (d ++ List.replicate k 0) := by
  refine ⟨?_, ?_, fun j hj => ?_⟩
  · have := h.1; simp only [List.length_append]; omega
  · have := h.2.1; simp only [List.length_append, List.length_replicate]; omega
  · rcases List.mem_append.mp hj with hj | hj
    · exact h.2.2 j hj
    · rw [List.eq_of_mem_replicate hj]; omega

theorem ok_zeros {d : List Nat} (i : Nat) (h : okRow d) : okV (textD d ++ Txt.mul (Str.ofString ".0") (1 + ((i : Nat) : Int).fmod 3)) := by
  obtain ⟨k, _, hk, e⟩ := zeros_is i h.ne
  rw [e]
  exact okV_text (h.wider hk)

theorem zeros_size {d : List Nat} (i : Nat) (h : okRow d) : (textD d).length + (Txt.mul (Str.ofString ".0") (1 + ((i : Nat) : Int).fmod 3)).length ≤ sizeLine := by
  have := (ok_zeros i h).1
  rw [Str.length_append] at this
  rw [sizeLine_eq]
  omega

theorem cmp_zeros {d : List Nat} (i : Nat) (h : okRow d) : cmpV (textD d) (textD d ++ Txt.mul (Str.ofString ".0") (1 + ((i : Nat) : Int).fmod 3)) = 0 := by
  obtain ⟨k, _, hk, e⟩ := zeros_is i h.ne
  rw [e]
  unfold cmpV
  rw [nums_text h.wide, nums_text (h.wider hk), List.map_append, List.map_replicate, show vl 0 = 0 from rfl]
  have e1 : padTo (d.map vl ++ List.replicate k 0).length (d.map vl) = d.map vl ++ List.replicate k 0 := by
    simp [padTo]
  have e2 : padTo (d.map vl).length (d.map vl ++ List.replicate k 0) = d.map vl ++ List.replicate k 0 := by
    simp [padTo]
  rw [e1, e2, cmpL_self]
end Mine
end

/-! Hd -/
section
open PySem PySem.W PyProof.Rows
namespace Mine
set_option maxRecDepth 100000 in
set_option maxHeartbeats 8000000 in
open_top hd for PySem.Challenge.rw_fr0003_01
end Mine
end

/-! C3 -/
section
open PySem PySem.W PyProof.Rows
namespace Mine

local macro_rules | `(tactic| walk_at "call builtin:str.split") => `(tactic| (k_here; (with_reducible show wpAny _ _ (call (Value.builtin "str.split") [Value.str _ _, Value.str _ _]) _ _ _); (refine KSpl.split1 (by k_asm) (by k_asm) (by decide) ?_ (okV.size (by assumption))); (intro D' l' h' k' e' a' F' N' l1); (try k_lt l1)))
local macro_rules | `(tactic| walk_at "call type:map") => `(tactic| (k_here; (with_reducible show wpAny _ _ (call (Value.type "map") [Value.type _, Value.ref _]) _ _ _); (refine map_N (by k_asm) (by k_asm) (by k_mem) ?_); (intro z' T' I' h' o' F' N' b' z1 z2 z3)))
local macro_rules | `(tactic| walk_at "call type:list") => `(tactic| (k_here; (with_reducible show wpAny _ _ (call (Value.type "list") [Value.ref _]) _ _ _); (rename List.map _ _ = Txt.split _ _ => e9); (refine list_map_N (by with_unfolding_all rfl) (by k_asm) (by assumption) (by assumption) (by assumption) (by assumption) (by assumption) (by k_mem) (okV.reads (by assumption) e9).1 (okV.reads (by assumption) e9).2.1 (okV.reads (by assumption) e9).2.2 ?_); (intro D' v' c' h' k' F' N' i' l1); (have w9 := okV.lenI (by assumption) i'); (try k_lt l1)))



local macro_rules | `(tactic| walk_at "mine enum") => `(tactic| (k_here; (with_reducible show wpAny _ _ (call (Value.type "enumerate") [Value.ref _]) _ _ _); (first | (have rdy := readyA (by assumption) (by assumption) (by assumption) (by (simp only [rangeKs_length] at *; omega))) | (have rdy := readyB (by assumption) (by assumption) (by assumption) (by (simp only [rangeKs_length] at *; omega))) | (have rdy := readyC (by assumption) (by omega))); (with_unfolding_all refine' enum_cmp rdy ?ia ?hh ?hl ?kF ?kN ?turn ?done); (case hh => with_unfolding_all rfl); (case kF => k_asm); (case kN => k_asm); (case hl => k_mem); (case ia => assumption); (case' turn => (intro i' t' u' h' k' own' i1 i2 i3 i4 F' N'; (try simp only [List.cons_append, List.nil_append] at N'))); (case' done => (intro h' k' u' hz F' N'))))

set_option maxRecDepth 100000 in
set_option maxHeartbeats 8000000 in
theorem cmpC (w : World) (loose : List Str) (mean : ExcName → Option Value) (mg mb : Str → Option Value) (news : CbLed) (v1 : CbStr) (t1 : CbTok) (v2 : CbStr) (t2 : CbTok) :
   CbClaim (PySem.Challenge.rw_fr0003_01.row.prog) w (hd.heap_39 w.params) hd.view_39 loose mean mg mb 21 news [] (okV v1 ∧ okV v2) [.str v1 t1, .str v2 t2] (fun t => .int (cmpV v1 v2) t) := by
  w_top off
  k_fill
  unfold CbClaim
  dsimp only [CbLists, CbRet]
  intros
  rename_i hpre hd1 hd2 hret
  obtain ⟨hv1, hv2⟩ := hpre
  have vss : Vs v1 v2 := ⟨hv1, hv2⟩
  have cbI : CbIn 21 := CbIn.mk
  w_strict (
  refine wpAny_call ?_
  k_dflt cell_enter
  k_with "pyIter ref" => k_state (fun pre items => (numsV v2).length < (numsV v1).length ∧ items = numsV v2 ++ List.replicate pre.length (0 : Int) ∧ items.length = (numsV v2).length + pre.length) "num_versions2"
  k_with "pyIter ref" => k_state (fun pre items => (numsV v1).length < (numsV v2).length ∧ items = numsV v1 ++ List.replicate pre.length (0 : Int) ∧ items.length = (numsV v1).length + pre.length) "num_versions1"
  k_with "state" => first | exact grow0 (by omega) | exact grow1 (by assumption) (by assumption) (by assumption)
  k_steps
  all_goals (walk_at "mine enum")
  all_goals k_steps
  all_goals first
    | (refine cb_retI hret (fin_gt (by assumption) (by assumption) (by assumption) (by assumption) (by assumption)) (by k_asm) ?_; (refine' cb_drop ?cbN ?cbS; (case cbN => assumption); (case cbS => kcj_all)))
    | (refine cb_retI hret (fin_lt (by assumption) (by assumption) (by assumption) (by assumption) (by assumption)) (by k_asm) ?_; (refine' cb_drop ?cbN ?cbS; (case cbN => assumption); (case cbS => kcj_all)))
    | (refine cb_retI hret (Eq.symm (by assumption)) (by k_asm) ?_; (refine' cb_drop ?cbN ?cbS; (case cbN => assumption); (case cbS => kcj_all)))
    | (refine TurnEnd.intro (by k_asm) (by k_asm) (fun _ hp => hp) (fun y hy => ?_) (fin_step (by assumption) (by assumption) (by assumption) (by assumption) (by assumption) (by assumption)); simp only [List.mem_cons, List.not_mem_nil, or_false, not_or] at hy; simp only [hy.1, hy.2, if_false])
    | skip
  skip)
end Mine
end

/-! CmpR -/
section
open PySem PySem.W PyProof.Rows
namespace Mine
/-- the contract of compare_versions as a step -/
theorem cmpR {w : World} {loose : List Str} {mean : ExcName → Option Value} {mg mb : Str → Option Value} {news : List (Addr × Obj)} {v1 : PySem.Str} {t1 : Tok} {v2 : PySem.Str} {t2 : Tok} {dp un : Nat} {gd : Option (List Code)} {cn : Str} {cs : Scope} {a : Addr} {ccd : Value} {cl : List (Str × Addr)} {outer : List Env} {A₀ : Around} {base h₀ : Heap} {L : Addr} {m : Str → Option Value} {s : Shared} {Q E : Value → Shared → Prop}
    (k1 : Below A₀ base outer h₀) (k2 : Fr h₀ L s.heap m) (k3 : (hd.heap_39 w.params).In h₀) (k4 : News h₀ L s.heap news) (k5 : Top hd.view_39 loose mean mg mb h₀) (kK : cs.kind = .function)
    (kp1 : okV v1) (kp2 : okV v2) (kd : dp + 1 < recursionLimit) (ku : un + 8 < cLine)
    (kR : ∀ (t : Tok) (h' : Heap) (tk' : Nat), Fr h₀ L h' m → News h₀ L h' news → Q (.int (cmpV v1 v2) t) { s with heap := h', toks := tk' }) :
    wpAny (model PySem.Challenge.rw_fr0003_01.row.prog w) (ktrTop dp un gd cn cs L a ccd cl outer) (call (.ref 21) [.str v1 t1, .str v2 t2]) Q E s := by
  have hCb := cmpC w loose mean mg mb news v1 t1 v2 t2
  dsimp only [CbClaim, CbLists, CbRet] at hCb
  exact hCb dp un gd cn cs a ccd cl outer A₀ base h₀ L m s Q E k1 k2 k3 k4 k5 kK ⟨kp1, kp2⟩ kd ku kR
end Mine
end

open PySem PySem.W PyProof.Rows Mine
local macro_rules | `(tactic| k_mem) => `(tactic| assumption)
local macro_rules | `(tactic| walk_at "call builtin:len") => `(tactic| (k_here; (with_reducible show wpAny _ _ (call (Value.builtin "len") [Value.ref _]) _ _ _); (with_unfolding_all refine' len_ints_fit ?k1 ?k2 ?k3 ?_; (case k1 => is_list); (case k2 => l_ints); (case k3 => (simp only [List.length_take]; omega)); k_whole); (simp only [List.length_take])))
local macro_rules | `(tactic| walk_at "call builtin:len") => `(tactic| (k_here; (with_reducible show wpAny _ _ (call (Value.builtin "len") [Value.ref _]) _ _ _); (refine' len_row ?kN ?hm ?hd ?okd ?_); (case kN => k_asm); (case hd => assumption); (case okd => assumption); (case hm => k_dflt k_mem)))
local macro_rules | `(tactic| walk_at "call builtin:len") => `(tactic| (k_here; (with_reducible show wpAny _ _ (call (Value.builtin "len") [Value.ref _]) _ _ _); (refine' len_rows ?kN ?hm ?hd ?hl ?_); (case kN => k_asm); (case hd => assumption); (case hl => assumption); (case hm => k_dflt k_mem)))
local macro_rules | `(tactic| walk_at "CompSrc") => `(tactic| (k_here; (refine' comp_pick ?hh ?kF ?kN ?hr ?b1 ?b4 ?eltA ?finA); (case hh => with_unfolding_all rfl); (case kF => k_asm); (case kN => k_asm); (case hr => assumption); (case b1 => first | omega | l_bnd); (case b4 => first | omega | l_bnd); (case' eltA => (intro k' t' I' oI' C' oC' D' y' m' h' tk' E' i0 i1 hC' hx' F' N' off' ne')); (case' finA => (intro ys' d' D' h' tk' okd' dat' F' N' o1'; (have o2' := o1'); (try simp only [LCg.Off1] at o2')))))
local macro_rules | `(tactic| walk_at "subscriptTail") => `(tactic| (k_here; (with_reducible show wpAny _ _ (subscriptTail _ _ (Value.ref _) (Value.int _ _)) _ _ _); (refine' item_pick ?kN ?hm ?hit ?h0 ?h7 ?_ ?hs); (case kN => k_asm); (case hm => k_dflt k_mem); (case hit => assumption); (case hs => with_unfolding_all rfl); (case h0 => first | omega | l_bnd | exact Int.fmod_nonneg_of_pos _ (by decide) | exact Int.emod_nonneg _ (by decide)); (case h7 => first | omega | l_bnd | exact Int.fmod_lt_of_pos _ (by decide) | exact Int.emod_lt_of_pos _ (by decide)); (intro v' j' hj' hd')))
local macro_rules | `(tactic| walk_at "subscriptTail") => `(tactic| (k_here; (with_reducible show wpAny _ _ (subscriptTail _ _ (Value.ref _) (Value.int _ _)) _ _ _); (refine' item_text ?kN ?hm ?hs ?hdi ?hl ?_); (case kN => k_asm); (case hs => assumption); (case hdi => assumption); (case hl => assumption); (case hm => k_dflt k_mem); (intro t')))
local macro_rules | `(tactic| walk_at "subscriptTail") => `(tactic| (k_here; (with_reducible show wpAny _ _ (subscriptTail _ _ (Value.ref _) (Value.int _ _)) _ _ _); (refine' item_pad ?kN ?hm ?hs ?hT ?hdi ?hl ?_); (case kN => k_asm); (case hs => assumption); (case hdi => assumption); (case hl => assumption); (case hm => k_dflt k_mem); (case hT => k_dflt (kcj_all)); (intro a' ws' n' hm' hi')))
local macro_rules | `(tactic| walk_at "binaryOp FloorDiv int int") => `(tactic| (k_here; (with_reducible show wpAny _ _ (binaryOp Operator.FloorDiv (Value.int _ _) (Value.int (_ ^ _) _)) _ _ _); (refine floordiv_int (Int.ne_of_gt (Int.pow_pos (by decide))) ?_)))
local macro_rules | `(tactic| walk_at "call builtin:list.append") => `(tactic| (k_here; (with_reducible show wpAny _ _ (call (Value.builtin _) [Value.ref _, _]) _ _ _); k_dflt (refine' append_K ?k1 ?k2 ?k3 ?_ ?z; (case k1 => k_asm); (case k2 => k_asm); (case k3 => k_upd); (case z => exact rs_size (by assumption) (by assumption)); k_whole); intro h' F' N'))
local macro_rules | `(tactic| walk_at "EltEnd") => `(tactic| (refine EltEnd.intro (by k_asm) (by k_asm) (by kcj_all) (by first | assumption | exact ⟨_, rfl⟩ | exact elt_lt (by assumption) | exact elt_gt (by assumption) (by assumption) | exact elt_eq (by assumption) (by assumption) | exact ⟨_, by assumption, by assumption⟩)))
local macro_rules | `(tactic| walk_at "SrcLP") => `(tactic| (k_here; (with_reducible show LCp.SrcLP _ _ _ _ _ _ _ (Expr.Name (Str.ofString "text") _) _ _ _ _ _ _ _); (refine' comp_row (fun j v => ∃ k, v = Value.str (tx j) k) ?hh ?kF ?kN ?hm ?hT ?hd ?okd ?eltB ?finB); (case hh => with_unfolding_all rfl); (case kF => k_asm); (case kN => k_asm); (case hd => assumption); (case hm => k_dflt k_mem); (case okd => assumption); (case hT => (intro p hp; k_dflt k_mem)); (case' eltB => (intro j' v1' v2' I' oI' C' oC' D' y' m' h' tk' E' jl' hv1' hv2' hC' hx' hy' F' N')); (case' finB => (intro ys' D' h' tk' hl' hp' F' N' o1'; (have hs' := strs_of hl' hp')))))
local macro_rules | `(tactic| walk_at "SrcLP") => `(tactic| (k_here; (with_reducible show LCp.SrcLP _ _ _ _ _ _ _ (Expr.Name (Str.ofString "value") _) _ _ _ _ _ _ _); (refine' comp_row (fun j v => ∃ k, v = Value.int (vl j) k) ?hh ?kF ?kN ?hm ?hT ?hd ?okd ?eltC ?finC); (case hh => with_unfolding_all rfl); (case kF => k_asm); (case kN => k_asm); (case hd => assumption); (case hm => first | assumption | k_dflt k_mem); (case okd => assumption); (case hT => (first | assumption | (intro p hp; k_dflt k_mem))); (case' eltC => (intro j' v1' v2' I' oI' C' oC' D' y' m' h' tk' E' jl' hv1' hv2' hC' hx' hy' F' N')); (case' finC => (intro ys' D' h' tk' hl' hp' F' N' o1'; (have hs' := ints_of hl' hp')))))
local macro_rules | `(tactic| walk_at "call builtin:str.join") => `(tactic| (k_here; (refine' join_made ?kN ?hm ?hs ?hok ?_); (case kN => k_asm); (case hm => k_dflt k_mem); (case hs => assumption); (case hok => exact row_joinOk (by assumption)); (intro t' k')))
local macro_rules | `(tactic| walk_at "eval ListComp") => `(tactic| (k_here; (with_reducible show wpAny _ _ (eval (Expr.ListComp _ [Comprehension.mk (Expr.Name _ _) _ _ _] _ _) _) _ _ _); (k_dflt (refine LCg.ListComp_U (F₀ := by k_asm) (by with_unfolding_all rfl) (by decide) (by rfl) (by decide) (by rfl) ?_))))
local macro_rules | `(tactic| walk_at "eval ListComp") => `(tactic| (k_here; (with_reducible show wpAny _ _ (eval (Expr.ListComp _ [Comprehension.mk (Expr.Tuple _ _ _) _ _ _] _ _) _) _ _ _); (k_dflt (refine LCp.ListComp_P (F₀ := by k_asm) (by with_unfolding_all rfl) (by decide) (by rfl) (by decide) (by rfl) (by rfl) (by decide) ?_))))
local macro_rules | `(tactic| walk_at "binaryOp Mult ref int") => `(tactic| (k_here; (refine' mul_pad ?kF ?kN ?hm ?okd ?_); (case kF => k_asm); (case kN => k_asm); (case hm => k_dflt k_mem); (case okd => assumption); (intro D' ws' h' F' N' l1' i1')))
local macro_rules | `(tactic| walk_at "binaryOp Add ref ref") => `(tactic| (k_here; (refine' add_pad ?kF ?kN ?hm ?hm2 ?hi ?hj ?okd ?_); (case kF => k_asm); (case kN => k_asm); (case hi => assumption); (case hj => assumption); (case hm => k_dflt k_mem); (case hm2 => k_dflt k_mem); (case okd => assumption); (intro D' ws' h' F' N' l1' i1')))
local macro_rules | `(tactic| walk_at "EltNew") => `(tactic| (refine EltNew.last (by k_asm) (by assumption) (by assumption) (by kcj_all) (by assumption)))
local macro_rules | `(tactic| walk_at "call ref") => `(tactic| (k_here; (with_reducible show wpAny _ _ (call (Value.ref _) [Value.str _ _, Value.str _ _]) _ _ _); (k_dflt (refine' cmpR ?k1 ?k2 ?k3 ?k4 ?k5 ?kK ?kp1 ?kp2 ?kd ?ku ?_)); (case k1 => k_asm); (case k2 => k_asm); (case k3 => k_asm); (case k4 => k_asm); (case k5 => k_asm); (case kK => first | exact rfl | assumption); (case kp1 => exact ok_text (by assumption)); (case kp2 => exact ok_zeros _ (by assumption)); (case kd => ktr_room); (case ku => ktr_units); (intro t9 h9 tk9 F9 N9); (rw [cmp_zeros _ (by assumption)])))
local macro_rules | `(tactic| walk_at "call ref") => `(tactic| (k_here; (with_reducible show wpAny _ _ (call (Value.ref _) [Value.str _ _, Value.str _ _]) _ _ _); (k_dflt (refine' cmpR ?k1 ?k2 ?k3 ?k4 ?k5 ?kK ?kp1 ?kp2 ?kd ?ku ?_)); (case k1 => k_asm); (case k2 => k_asm); (case k3 => k_asm); (case k4 => k_asm); (case k5 => k_asm); (case kK => first | exact rfl | assumption); (case kp1 => exact ok_text (by assumption)); (case kp2 => exact ok_text (by assumption)); (case kd => ktr_room); (case ku => ktr_units); (intro t9 h9 tk9 F9 N9)))
local macro_rules | `(tactic| walk_at "compareOp Lt ref ref") => `(tactic| (k_here; (with_reducible show wpAny _ _ (compareOp CmpOp.Lt (Value.ref _) (Value.ref _)) _ _ _); (refine' lt_pad ?kN ?ha ?hb ?hi ?hj ?od ?oe ?hu ?_); (case kN => k_asm); (case ha => k_dflt k_mem); (case hb => k_dflt k_mem); (case hi => assumption); (case hj => assumption); (case od => assumption); (case oe => assumption); (case hu => units_room)))
local macro_rules | `(tactic| walk_at "compareOp Gt ref ref") => `(tactic| (k_here; (with_reducible show wpAny _ _ (compareOp CmpOp.Gt (Value.ref _) (Value.ref _)) _ _ _); (refine' gt_pad ?kN ?ha ?hb ?hi ?hj ?od ?oe ?hu ?_); (case kN => k_asm); (case ha => k_dflt k_mem); (case hb => k_dflt k_mem); (case hi => assumption); (case hj => assumption); (case od => assumption); (case oe => assumption); (case hu => units_room)))
local macro_rules | `(tactic| walk_at "compareOp NotEq ref ref") => `(tactic| (k_here; (with_reducible show wpAny _ _ (compareOp CmpOp.NotEq (Value.ref _) (Value.ref _)) _ _ _); (refine' ne_same ?kN ?ha ?hb ?hi ?hj ?he ?hu ?_); (case kN => k_asm); (case ha => k_dflt k_mem); (case hb => k_dflt k_mem); (case hi => assumption); (case hj => assumption); (case he => exact told_eq (by assumption) (by assumption)); (case hu => units_room)))
local macro_rules | `(tactic| walk_at "binaryOp Add str str") => `(tactic| (k_here; (with_reducible show wpAny _ _ (binaryOp Operator.Add (Value.str _ _) (Value.str _ _)) _ _ _); (refine' SBL.add ?_ ?hsz); (case hsz => exact zeros_size _ (by assumption)); (intro t' k')))
local macro_rules | `(tactic| walk_at "LoopEnd") => `(tactic| (k_here; (with_reducible show LoopEnd _ _ _ (J2 _ _ _ _ _ _ _ _ _ _ _) _ _); (refine' turn2_end ?kF ?kN ?hk ?ho ?hN; (case kF => k_asm); (case kN => k_asm); (case hk => k_dflt kcj_all); (case ho => assumption); (case hN => assumption))))
set_option maxRecDepth 100000 in
set_option maxHeartbeats 8000000 in
theorem PySem.Challenge.cw_fr0003_01_holds : PySem.Challenge.rw_fr0003_01.Holds := by
  exact Mine.hd (by
  w_top off
  w_strict (
  k_go0
  all_goals try k_fold
  k_steps
  with_unfolding_all refine' For_list ?kF1 ?kh1 ?hs1
  case kF1 => k_asm
  case hs1 => intro _; with_unfolding_all rfl
  k_steps
  all_goals (try k_data)
  with_unfolding_all refine' loop1_intro ?hh2 ?kF2 ?kN2 ?hI2 ?hn2 ?hTb2 ?hX2 ?hE2 ?turn2 ?done2
  case hh2 => with_unfolding_all rfl
  case kF2 => assumption
  case kN2 => assumption
  case hI2 => assumption
  case hn2 => simp only [List.length_take, List.length_append, List.length_cons, List.length_nil]; omega
  case hTb2 => assumption
  case hX2 => assumption
  case hE2 => passes_own
  case' turn2 => intro n' t' rs' c' ds' oTb' oX' vTb' vX' T' u' h' tk' own' d1 d2 d3 d4 d5 d6 d7 d8 d9 F' N'
  case' done2 => intro rs' c' ds' oTb' oX' vTb' vX' T' u' h' tk' d1 d2 d3 d4 d5 d6 F' N'
  case turn2 =>
    repeat' ((fail_if_success (with_reducible show wpAny _ _ (exec (Stmt.Assign _ (Expr.IfExp _ _ _ _) _) _) _ _ _)); first | walk1 | (dsimp only; walk1))
    have hp := pack (by assumption) (by assumption) (by assumption) (by assumption) (by assumption) (by assumption) (by assumption) (by assumption) (by assumption) (by assumption) (by assumption) (by assumption) (by assumption)
    obtain ⟨its', T2', N', e1', e2', e3', e4', e5', e6', e7', e8'⟩ := hp
    have e9' := ownOff_append e4' e3'
    repeat' (first | walk1 | (dsimp only; walk1))
    · rename LCg.Off1 _ _ => o9
      have ap := apartA o9
      with_unfolding_all exact turn1_end (by assumption) (by assumption) ap (by assumption) (by assumption) (by assumption) (by assumption) (by assumption) (by assumption) (by assumption) (by assumption) (by assumption)
    · have ap := apartB (by assumption)
      rename DatIn _ _ _ => q3
      revert q3
      rename DatIn _ _ _ => q2
      revert q2
      rename DatIn _ _ _ => q1
      revert q1
      rename DatIn _ _ _ => q0
      intro q1 q2 q3
      obtain ⟨d, okd, hd⟩ := row4 q0 q1 q2 q3 (by assumption) (by assumption) (by assumption) (by assumption)
      with_unfolding_all exact turn1_end (by assumption) (by assumption) ap hd okd (by assumption) (by assumption) (by assumption) (by assumption) (by assumption) (by assumption) (by assumption)
  case done2 =>
    dsimp only
    repeat' ((fail_if_success (with_reducible show LCg.CompSrc _ _ _ _ _ _ _ _ _ _ _ _ _ _)); first | walk1 | (dsimp only; walk1))
    refine' comp_texts ?hh3 ?kF3 ?kN3 ?hm3 ?hT3 ?hd3 ?hok3 ?hlen3 ?elt3 ?fin3
    case hh3 => with_unfolding_all rfl
    case kF3 => assumption
    case kN3 => assumption
    case hm3 => k_dflt k_mem
    case hd3 => assumption
    case hT3 => intro p hp; k_dflt (repeat (refine List.Mem.tail _ ?_)); assumption
    case hok3 => assumption
    case hlen3 => assumption
    case' elt3 => intro d' a' vs' n' I' oI' C' oC' D' y' m' h' tk' E' okd' hm' hd' hC' hx' F' N' off' ne'
    case' fin3 => intro ys' D' h' tk' hs' F' N' o1'; have o2' := o1'; simp only [LCg.Off1] at o2'
    case elt3 => repeat' (first | walk1 | (dsimp only; walk1))
    repeat' ((fail_if_success (with_reducible show LCg.CompSrc _ _ _ _ _ _ _ _ _ _ _ _ _ _)); first | walk1 | (dsimp only; walk1))
    with_unfolding_all refine' comp_padded (fx := [_, _, _, _, _]) ?hh4 ?kF4 ?kN4 ?hm4 ?hd4 ?hok4 ?hlen4 ?elt4 ?fin4
    case hh4 => with_unfolding_all rfl
    case kF4 => assumption
    case kN4 => with_unfolding_all assumption
    case hm4 => k_dflt k_mem
    case hd4 => assumption
    case hok4 => assumption
    case hlen4 => assumption
    case' elt4 => intro d' a' vs' n' G' I' oI' C' oC' D' y' m' h' tk' E' okd' hm' hd' hT' hC' hx' F' N' off' ne'; have hm3 := List.Mem.tail (I', oI') (List.Mem.tail (C', oC') (List.Mem.tail (D', LCg.lst y') hm')); have hT3 := fun p hp => List.Mem.tail (I', oI') (List.Mem.tail (C', oC') (List.Mem.tail (D', LCg.lst y') (hT' p hp)))
    case' fin4 => intro ys' G' D' h' tk' hG' hs' F' N' o1'
    case elt4 => repeat' (first | walk1 | (dsimp only; walk1))
    simp only [List.cons_append, List.nil_append] at N' o1'
    have o2' := o1'
    simp only [LCg.Off1] at o2'
    have hGT := ownGT hG' (by assumption)
    repeat' ((fail_if_success (with_reducible show wpAny _ _ (exec (Stmt.For _ _ _ _ _) _) _ _ _)); first | walk1 | (dsimp only; walk1))
    with_unfolding_all refine' For_range ?kF5 ?kh5 ?hs5
    case kF5 => k_asm
    case hs5 => intro _; with_unfolding_all rfl
    repeat' (first | walk1 | (dsimp only; walk1))
    with_unfolding_all refine' loop2_intro ?hr6 ?hn6 ?hh6 ?kF6 ?kN6 ?hU6 ?hN6 ?hE6 ?turn6 ?done6
    case hr6 => assumption
    case hn6 => assumption
    case hh6 => with_unfolding_all rfl
    case kF6 => assumption
    case kN6 => with_unfolding_all assumption
    case hU6 => with_unfolding_all assumption
    case hN6 => assumption
    case hE6 => passes_own
    case' turn6 => intro i' t' oN' vN' h' tk' own' m' hi' hN' hUo' hoU' F' N'
    case' done6 => intro m' h' tk' F'
    case done6 => dsimp only; k_steps
    obtain ⟨di', hdi'⟩ : ∃ d, _ = some d := ⟨_, List.getElem?_eq_getElem hi'⟩
    have okd' := (by assumption : ∀ d ∈ _, okRow d) di' (List.mem_of_getElem? hdi')
    dsimp only
    repeat' ((fail_if_success (with_reducible show LCg.CompSrc _ _ _ _ _ _ _ _ _ _ _ _ _ _)); first | walk1 | (dsimp only; walk1))
    refine' comp_told ?hdi7 ?hh7 ?kF7 ?kN7 ?hm7 ?hd7 ?hok7 ?hlen7 ?elt7 ?fin7
    case hdi7 => assumption
    case hh7 => with_unfolding_all rfl
    case kF7 => assumption
    case kN7 => assumption
    case hm7 => k_dflt k_mem
    case hd7 => assumption
    case hok7 => assumption
    case hlen7 => assumption
    case' elt7 => intro d' t' I' oI' C' oC' D' y' m' h' tk' E' okd2' hC' hx' F' N' off' ne'
    case' fin7 => intro ys' D' h' tk' hs' F' N' o1'; have o2' := o1'; simp only [LCg.Off1] at o2'
    case elt7 => repeat' (first | walk1 | (dsimp only; walk1))
    dsimp only
    repeat' ((fail_if_success (with_reducible show LCg.CompSrc _ _ _ _ _ _ _ _ _ _ _ _ _ _)); first | walk1 | (dsimp only; walk1))
    with_unfolding_all refine' comp_exp ?hdi8 ?hh8 ?kF8 ?kN8 ?hm8 ?hT8 ?hd8 ?hok8 ?hlen8 ?elt8 ?fin8
    case hdi8 => assumption
    case hh8 => with_unfolding_all rfl
    case kF8 => assumption
    case kN8 => assumption
    case hm8 => k_dflt k_mem
    case hd8 => assumption
    case hT8 => k_dflt (kcj_all)
    case hok8 => assumption
    case hlen8 => assumption
    case' elt8 => intro d' a' ws' n' I' oI' C' oC' D' y' m' h' tk' E' okd2' hm' hi' hC' hx' F' N' off' ne'
    case' fin8 => intro ys' D' h' tk' hs' F' N' o1'; have o2' := o1'; simp only [LCg.Off1] at o2'
    case elt8 => repeat' (first | walk1 | (dsimp only; walk1))
    repeat' (first | walk1 | (dsimp only; walk1))
  ))
