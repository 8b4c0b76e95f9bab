import PyProof.Rows.All
import Wide.All
import OpenK.AllK
import Wide.FinOn
import PySem.Challenge.RW_ny0094_01
open PySem PySem.W PySem.Calls PyProof.Rows
set_option Elab.async false
set_option maxRecDepth 100000
set_option maxHeartbeats 8000000
namespace Mine
section
theorem owner_map : Manifest.owners.lookup (String.ofList ['p', 'a', 'm'].reverse) = some Manifest.sig_map := by kernel_rfl
theorem slot_map_init : Slot "map" "__init__" "object.__init__" :=
  .of (owner := "object") (n := "__init__") (by rw [typeLookup_type, builtinLookup_eq_fast]; kernel_rfl) (by decide +kernel) (by decide +kernel) (by decide +kernel)
    (by first | exact .inl (by decide +kernel) | exact .inr (by decide +kernel)) (by rw [isSubtype_type]; kernel_rfl)
theorem slot_map_iter : Slot "map" "__iter__" "map.__iter__" :=
  .of (owner := "map") (n := "__iter__") (by rw [typeLookup_type, builtinLookup_eq_fast]; kernel_rfl) (by decide +kernel) (by decide +kernel) (by decide +kernel)
    (by first | exact .inl (by decide +kernel) | exact .inr (by decide +kernel)) (by rw [isSubtype_type]; kernel_rfl)
theorem slot_map_next : Slot "map" "__next__" "map.__next__" :=
  .of (owner := "map") (n := "__next__") (by rw [typeLookup_type, builtinLookup_eq_fast]; kernel_rfl) (by decide +kernel) (by decide +kernel) (by decide +kernel)
    (by first | exact .inl (by decide +kernel) | exact .inr (by decide +kernel)) (by rw [isSubtype_type]; kernel_rfl)
theorem args_map_iter (a : Value) : argsOk "map.__iter__" ⟨[a], []⟩ := by
  unfold argsOk; rw [signature?_of (id := "map.__iter__") (n := ['_', '_', 'r', 'e', 't', 'i', '_', '_']) (o := ['p', 'a', 'm']) (by kernel_rfl) owner_map]; kernel_rfl
theorem args_map_next (a : Value) : argsOk "map.__next__" ⟨[a], []⟩ := by
  unfold argsOk; rw [signature?_of (id := "map.__next__") (n := ['_', '_', 't', 'x', 'e', 'n', '_', '_']) (o := ['p', 'a', 'm']) (by kernel_rfl) owner_map]; kernel_rfl
theorem entry_map_iter : entryFor table "map.__iter__" = some Builtin.«dict_keyiterator.__iter__» :=
  entryFor_alias (id' := "dict_keyiterator.__iter__") (by kernel_rfl) (by first | rfl | decide +kernel | (unfold String.splitOn; simp +decide [String.splitOnAux])) (by decide +kernel) (by kernel_rfl)
theorem entry_map_new : entryFor table "map.__new__" = some Builtin.«map.__new__» := entryFor_of_tree (by kernel_rfl)
theorem entry_map_next : entryFor table "map.__next__" = some Builtin.«map.__next__» := entryFor_of_tree (by kernel_rfl)
theorem mro_map : mroOf (.type "map") = pure [.type "map", .type "object"] := by rw [mroOf_type]; kernel_rfl
theorem lookup_map_new : typeLookup (.type "map") "__new__" = pure (some (.builtin "map.__new__")) := by rw [typeLookup_type, builtinLookup_eq_fast]; kernel_rfl
theorem map_no_len : typeLookup (.type "map") "__len__" = pure none := by rw [typeLookup_type, builtinLookup_eq_fast]; kernel_rfl
theorem map_no_hint : typeLookup (.type "map") "__length_hint__" = pure none := by rw [typeLookup_type, builtinLookup_eq_fast]; kernel_rfl
theorem called_map : TypeCalled "map" "map.__new__" "object.__init__" :=
  ⟨by decide +kernel, by decide +kernel, ⟨_, _, mro_map⟩, madeBy_type mro_map lookup_map_new (by decide +kernel), by decide +kernel, by rw [isSubtype_type]; kernel_rfl, slot_map_init⟩
theorem typeCall_map_2 (a b : Value) : checkTypeCall "map" ⟨[a, b], []⟩ = pure () := by kernel_rfl
theorem newCall_map_2 (a b : Value) : checkBuiltinCall "map.__new__" ⟨[.type "map", a, b], []⟩ = pure () := by kernel_rfl
theorem sub_map : isSubtype (.type "map") (.type "map") = pure true := by rw [isSubtype_type]; kernel_rfl
def mapObj (T : Addr) (f : Value) : Obj := { cls := .type "map", data := .fields #[.ref T, f] }
def iterObj (l : Addr) (i : Nat) : Obj := { cls := .type "list_iterator", data := .fields #[.ref l, .int i 0] }
def tup1 (i : Addr) : Obj := { cls := .type "tuple", data := .seq #[.ref i] }
theorem meets_map_new (f : Value) (l : Addr) (xs : Array Value) :
    Meets (Builtin.«map.__new__» ⟨[.type "map", f, .ref l], []⟩) (fun _ R s => s.heap.IsList l xs ∧
      R (.ok (.ret (.ref (((s.heap.push (iterObj l 0)).push (tup1 s.heap.objs.size))).objs.size))) { s with heap := ((s.heap.push (iterObj l 0)).push (tup1 s.heap.objs.size)).push (mapObj (s.heap.push (iterObj l 0)).objs.size f) }) :=
  .of_wp fun prog w A R s h => by
    obtain ⟨hp, g, d, tk, os⟩ := s; obtain ⟨hl1, h⟩ := h
    have hsub := sub_map
    have hL1 : Heap.IsList (Shared.heap ⟨hp, g, d, tk, os⟩) l xs := hl1
    wp_walk using wpAny_pyIter_list hL1
    exact ⟨_, rfl, h⟩
section
variable {prog : Program} {w : World} {A : Around} {E : Value → Shared → Prop} {s : Shared}
theorem call_map {f : Value} {l : Addr} {xs : Array Value} {Q : Value → Shared → Prop} (hl : s.heap.IsList l xs)
    (h : Q (.ref (((s.heap.push (iterObj l 0)).push (tup1 s.heap.objs.size))).objs.size) { s with heap := ((s.heap.push (iterObj l 0)).push (tup1 s.heap.objs.size)).push (mapObj (s.heap.push (iterObj l 0)).objs.size f) }) :
    wpAny (model prog w) A (call (.type "map") [f, .ref l]) Q E s := by
  refine callType_new called_map (by decide) (typeCall_map_2 _ _) (newCall_map_2 _ _) (fun obj => F.args_object_init_3 obj _ _) entry_map_new
    (meets_map_new f l xs) ⟨hl, ⟨_, Heap.get?_push_size _ rfl, rfl⟩, h⟩
/-- a map by str over a list, and its parts -/
structure MapAt (h : Heap) (z T I l : Addr) (i : Nat) (its : Array Value) : Prop where
  map : h.get? z = some (mapObj T (.type "str"))
  tup : h.get? T = some (tup1 I)
  iter : h.IsListIter I l i
  list : h.IsList l its
theorem MapAt.but {h h' : Heap} {z T I l S : Addr} {i : Nat} {its : Array Value} (x : MapAt h z T I l i its) (hs : Heap.ExtBut S h h') (h1 : z ≠ S) (h2 : T ≠ S) (h3 : I ≠ S) (h4 : l ≠ S) : MapAt h' z T I l i its :=
  ⟨hs _ _ h1 x.map, hs _ _ h2 x.tup, x.iter.extBut hs h3, x.list.extBut hs h4⟩
theorem next_item {z T I l : Addr} {i : Nat} {its : Array Value} {x : Str} {t : Tok} {Q : Option Value → Shared → Prop} (D : z ≠ I ∧ T ≠ I ∧ l ≠ I) (M : MapAt s.heap z T I l i its) (hx : its[i]? = some (.str x t))
    (hQ : ∀ h', MapAt h' z T I l (i + 1) its → Heap.SameBut I s.heap h' → Q (some (.str x t)) { s with heap := h' }) : wpAny (model prog w) A (pyNext (.ref z)) Q E s := by
  have hT : s.TypeIs (.ref z) "map" := ⟨_, M.map, rfl⟩
  unfold pyNext
  refine wpAny_bind (wpAny_attempt (wpAny_callSpecial?_slot (name := Str.ofString "__next__") hT slot_map_next
    (wpAny_call_entry slot_map_next hT entry_map_next ?_ (args_map_next _))))
  show wpAny _ _ (field (.ref z) 0 >>= _) _ _ _
  refine wpAny_bind (wpAny_field M.map rfl (x := .ref T) rfl ?_)
  refine wpAny_bind (wpAny_seqItems M.tup rfl ?_)
  refine wpAny_bind ?_
  simp only [List.forIn_toArray, List.forIn_cons, List.forIn_nil]
  refine wpAny_bind (wpAny_bind (wpAny_holding (wpAny_nextOf_list_item M.iter M.list hx fun h' hi' hs' => ?_)))
  refine wpAny_pure (wpAny_pure ?_)
  have M' : MapAt h' z T I l (i + 1) its := ⟨hs'.extBut _ _ D.1 M.map, hs'.extBut _ _ D.2.1 M.tup, hi', M.list.extBut hs'.extBut D.2.2⟩
  refine wpAny_bind (wpAny_field (s := { s with heap := h' }) M'.map rfl (x := .type "str") rfl ?_)
  refine wpAny_bind (wpAny_holding (P.str_of_str ?_))
  refine wpAny_bind (wpAny_letGo (wpAny_pure ⟨_, rfl, ?_⟩))
  exact wpAny_pure (hQ h' M' hs')
theorem next_end {z T I l : Addr} {i : Nat} {its : Array Value} {Q : Option Value → Shared → Prop} (hh : A.handled = none) (M : MapAt s.heap z T I l i its) (hx : its[i]? = none)
    (hQ : ∀ h', Heap.ExtBut I s.heap h' → Q none { s with heap := h' }) : wpAny (model prog w) A (pyNext (.ref z)) Q E s := by
  have hT : s.TypeIs (.ref z) "map" := ⟨_, M.map, rfl⟩
  unfold pyNext
  refine wpAny_bind (wpAny_attempt (wpAny_callSpecial?_slot (name := Str.ofString "__next__") hT slot_map_next
    (wpAny_call_entry slot_map_next hT entry_map_next ?_ (args_map_next _))))
  show wpAny _ _ (field (.ref z) 0 >>= _) _ _ _
  refine wpAny_bind (wpAny_field M.map rfl (x := .ref T) rfl ?_)
  refine wpAny_bind (wpAny_seqItems M.tup rfl ?_)
  refine wpAny_bind ?_
  simp only [List.forIn_toArray, List.forIn_cons, List.forIn_nil]
  refine wpAny_bind (wpAny_bind (wpAny_holding (wpAny_nextOf_list_end hh M.iter M.list hx fun h' e hs' he => ?_)))
  obtain ⟨o, ho, hc⟩ := he
  refine wpAny_bind (wpAny_isInstance (T := "StopIteration") (b := true) ⟨o, ho, hc⟩ isSubtype_stop ?_)
  exact wpAny_pure (hQ _ hs')
theorem extend_loop {R : Result → Shared → Prop} {z T I l S : Addr} {its : Array Value} {res : Value} (hh : A.handled = none) (D : z ≠ I ∧ T ≠ I ∧ l ≠ I) (DS : z ≠ S ∧ T ≠ S ∧ I ≠ S ∧ l ≠ S) :
    ∀ (rest : List (Str × Tok)) (i : Nat) (s : Shared) (acc : Array Value) (c : Nat), MapAt s.heap z T I l i its → its.toList.drop i = strValues rest → s.heap.get? S = some (W.listOf acc c) → acc.size + rest.length ≤ 1000 →
    (∀ h' c', h'.get? S = some (W.listOf (acc ++ (strValues rest).toArray) c') → (∀ b o, b ≠ S → b ≠ I → s.heap.get? b = some o → h'.get? b = some o) → R (.ok (.ret res)) { s with heap := h' }) →
    codeAny (model prog w) A (.builtin "list.extend.loop" ⟨[.ref S, .ref z, res], []⟩) R s := by
  intro rest
  induction rest with
  | nil =>
    intro i s acc c M hd hS hz hR
    refine codeAny_builtin F.entry_extend_loop ?_
    rw [Around.under_plainId F.plain_extend_loop _]
    show wpAny _ A.in1 (pyNext (.ref z) >>= _) _ _ s
    have hx : its[i]? = none := by
      have : its.toList.drop i = [] := hd
      have := List.drop_eq_nil_iff.mp this
      rw [← Array.getElem?_toList]
      exact List.getElem?_eq_none this
    refine wpAny_bind (next_end hh M hx fun h' hs' => ?_)
    refine wpAny_pure (hR h' c ?_ fun b o h1 h2 e => hs' _ _ h2 e)
    rw [show acc ++ (strValues []).toArray = acc from by simp [strValues]]
    exact hs' _ _ (Ne.symm DS.2.2.1) hS
  | cons y rest ih =>
    obtain ⟨x, t⟩ := y
    intro i s acc c M hd hS hz hR
    refine codeAny_builtin F.entry_extend_loop ?_
    rw [Around.under_plainId F.plain_extend_loop _]
    show wpAny _ A.in1 (pyNext (.ref z) >>= _) _ _ s
    have hd' : its.toList.drop i = .str x t :: strValues rest := hd
    have hx : its[i]? = some (.str x t) := by
      have h0 := List.getElem?_drop (xs := its.toList) (i := i) (j := 0)
      rw [hd'] at h0
      rw [← Array.getElem?_toList]
      simpa using h0.symm
    have hd2 : its.toList.drop (i + 1) = strValues rest := by
      have e : its.toList.drop (i + 1) = (its.toList.drop i).drop 1 := by rw [List.drop_drop]
      rw [e, hd']; rfl
    refine wpAny_bind (next_item D M hx fun h' M' hs' => ?_)
    have hS' := hs'.extBut _ _ (Ne.symm DS.2.2.1) hS
    show wpAny _ A.in1 (updateSeq S (·.push (.str x t)) >>= _) _ _ _
    simp only [List.length_cons] at hz
    have hl : sizeLine = 16777216 := sizeLine_eq
    refine wpAny_bind (wpAny_updateSeq hS' rfl (wpAny_pure ⟨plainId_quiet F.plain_extend_loop _, ?_⟩) (by omega) (by rw [Array.size_push]; omega))
    have up : Heap.SameBut S h' (h'.update S (Obj.mapSeq (·.push (.str x t)))) := Heap.SameBut.update ..
    refine ih (i + 1) _ (acc.push (.str x t)) (c + 1) (M'.but up.extBut DS.1 DS.2.1 DS.2.2.1 DS.2.2.2) hd2 ?_ (by rw [Array.size_push]; omega) fun h'' c'' hS'' hk => ?_
    · have e := Heap.get?_update_self (Obj.mapSeq (·.push (Value.str x t))) hS' rfl
      rw [e]
      simp [Obj.mapSeq, W.listOf]
    · refine hR h'' c'' ?_ fun b o h1 h2 e => hk b o h1 h2 (up.extBut _ _ h1 (hs'.extBut _ _ h2 e))
      rw [hS'']
      simp [strValues]
theorem call_extend_map {z T I l S : Addr} {its acc : Array Value} {c : Nat} {rest : List (Str × Tok)} {Q : Value → Shared → Prop} (hh : A.handled = none) (D : z ≠ I ∧ T ≠ I ∧ l ≠ I) (DS : z ≠ S ∧ T ≠ S ∧ I ≠ S ∧ l ≠ S)
    (M : MapAt s.heap z T I l 0 its) (hd : its.toList = strValues rest) (hS : s.heap.get? S = some (W.listOf acc c)) (hz : acc.size + rest.length ≤ 1000)
    (h : ∀ h' c', h'.get? S = some (W.listOf (acc ++ (strValues rest).toArray) c') → (∀ b o, b ≠ S → b ≠ I → s.heap.get? b = some o → h'.get? b = some o) → Q .none { s with heap := h' }) :
    wpAny (model prog w) A (call (.builtin "list.extend") [.ref S, .ref z]) Q E s := by
  have hT : s.TypeIs (.ref S) "list" := ⟨_, hS, rfl⟩
  have hM : s.TypeIs (.ref z) "map" := ⟨_, M.map, rfl⟩
  refine wpAny_call (codeAny_call_builtin F.slot_list_extend.plain F.entry_list_extend (F.slot_list_extend.check _ _ _ _ _ _ _ _ hT (F.args_list_extend_2 _ _) ?_))
  show wpAny _ _ (Builtin.List.listExtendWith (.ref S) (.ref z) .none) _ _ _
  unfold Builtin.List.listExtendWith
  refine wpAny_bind (wpAny_typeOf hM ?_)
  have h1 : Builtin.List.listSameRef (.ref S) (.ref z) = false := by simp [Builtin.List.listSameRef]; exact fun e => DS.1 e.symm
  have h2 : (Value.type "map" == Value.type "list") = false := by decide
  have h3 : (Value.type "map" == Value.type "tuple") = false := by decide
  simp only [h1, h2, h3, Bool.or_false, Bool.false_eq_true, if_false]
  refine wpAny_bind (wpAny_pyIter_slot hM slot_map_iter (wpAny_call_entry slot_map_iter hM entry_map_iter ?_ (args_map_iter _)))
  show wpAny _ _ (ret (.ref z)) _ _ s
  refine wpAny_pure ⟨_, rfl, "map", _, hM, slot_map_next.lookup, ?_⟩
  refine wpAny_bind (wpAny_holding ?_)
  unfold Builtin.List.listLengthHint
  refine wpAny_bind (wpAny_specialOf hM map_no_len ?_)
  show wpAny _ _ (specialOf (Value.ref z) (Str.ofString "__length_hint__") >>= _) _ _ _
  refine wpAny_bind (wpAny_specialOf hM map_no_hint ?_)
  refine wpAny_pure ?_
  show wpAny _ _ (rule "list.extend.makes-room" >>= fun _ => Builtin.List.listTouch (.ref S) >>= fun _ => again (.builtin "list.extend.loop" ⟨[.ref S, .ref z, .none], []⟩)) _ _ _
  refine wpAny_bind (wpAny_rule ?_)
  refine wpAny_bind ?_
  show wpAny _ _ (updateSeq S (·.push .none) >>= fun _ => updateSeq S (·.pop)) _ _ _
  have hl : sizeLine = 16777216 := sizeLine_eq
  refine wpAny_bind (wpAny_updateSeq hS rfl ?_ (by omega) (by rw [Array.size_push]; omega))
  have hS₂ := Heap.get?_update_self (Obj.mapSeq (·.push Value.none)) hS rfl
  refine wpAny_updateSeq hS₂ rfl ?_ (by simp; omega) (by simp; omega)
  have hS₃ := Heap.get?_update_self (Obj.mapSeq (·.pop)) hS₂ rfl
  have u1 : Heap.SameBut S s.heap (s.heap.update S (Obj.mapSeq (·.push Value.none))) := Heap.SameBut.update ..
  have u2 : Heap.SameBut S (s.heap.update S (Obj.mapSeq (·.push Value.none))) ((s.heap.update S (Obj.mapSeq (·.push Value.none))).update S (Obj.mapSeq (·.pop))) := Heap.SameBut.update ..
  have e3 : Obj.mapSeq (·.pop) (Obj.mapSeq (·.push Value.none) (W.listOf acc c)) = W.listOf acc (c + 1 + 1) := by simp [Obj.mapSeq, W.listOf]
  rw [e3] at hS₃
  refine wpAny_pure ⟨plainId_quiet F.plain_extend_loop _, extend_loop hh D DS rest 0 _ acc _ ((M.but u1.extBut DS.1 DS.2.1 DS.2.2.1 DS.2.2.2).but u2.extBut DS.1 DS.2.1 DS.2.2.1 DS.2.2.2) (by simpa using hd) hS₃ hz fun h' c' hS' hk => ?_⟩
  exact h h' c' hS' fun b o b1 b2 e => hk b o b1 b2 (u2.extBut _ _ b1 (u1.extBut _ _ b1 e))
end
section
variable {prog : Program} {w : World} {A : Around} {E : Value → Shared → Prop} {s : Shared} {h₀ : Heap} {L : Addr} {m : Str → Option Value} {news : List (Addr × Obj)}
theorem map_K {f : Value} {l : Addr} {its : Array Value} {n : Nat} {Q : Value → Shared → Prop} (F : Fr h₀ L s.heap m) (N : News h₀ L s.heap news) (hl : (l, W.listOf its n) ∈ news)
    (h : ∀ z T I h', Fr h₀ L h' m → News h₀ L h' ((z, mapObj T f) :: (T, tup1 I) :: (I, iterObj l 0) :: news) → (∀ p ∈ news, p.1 < I) → I < T → T < z → Q (.ref z) { s with heap := h' }) : wpAny (model prog w) A (call (.type "map") [f, .ref l]) Q E s := by
  refine call_map (xs := its) ⟨_, (N _ hl).1, rfl, n, rfl⟩ ?_
  have e1 : (s.heap.push (iterObj l 0)).objs.size = s.heap.objs.size + 1 := Heap.size_push ..
  have e2 : ((s.heap.push (iterObj l 0)).push (tup1 s.heap.objs.size)).objs.size = s.heap.objs.size + 2 := by rw [Heap.size_push, e1]
  have N3 := News.push ((F.push (iterObj l 0)).push (tup1 s.heap.objs.size)) (News.push (F.push (iterObj l 0)) (News.push F N (iterObj l 0)) (tup1 s.heap.objs.size)) (mapObj (s.heap.push (iterObj l 0)).objs.size f)
  refine h _ _ _ _ (((F.push _).push _).push _) N3 (fun p hp => Heap.lt_size (N p hp).1) ?_ ?_
  · rw [e1]; exact Nat.lt_succ_self _
  · rw [e1, e2]; exact Nat.lt_succ_self _
theorem extend_K {z T I l S : Addr} {acc : Array Value} {c n : Nat} {rest : List (Str × Tok)} {Q : Value → Shared → Prop} (hh : A.handled = none) (F : Fr h₀ L s.heap m)
    (N : News h₀ L s.heap ((z, mapObj T (.type "str")) :: (T, tup1 I) :: (I, iterObj l 0) :: (S, W.listOf acc c) :: news)) (hl : (l, W.listOf (strValues rest).toArray n) ∈ news) (hlt : ∀ p ∈ (S, W.listOf acc c) :: news, p.1 < I) (hIT : I < T) (hTz : T < z) (hS : ∀ p ∈ news, p.1 ≠ S) (hz : acc.size + rest.length ≤ 1000)
    (h : ∀ h' c', Fr h₀ L h' m → News h₀ L h' ((S, W.listOf (acc ++ (strValues rest).toArray) c') :: news) → Q .none { s with heap := h' }) : wpAny (model prog w) A (call (.builtin "list.extend") [.ref S, .ref z]) Q E s := by
  have nz := N _ (.head _)
  have nT := N _ (.tail _ (.head _))
  have nI := N _ (.tail _ (.tail _ (.head _)))
  have nS := N _ (.tail _ (.tail _ (.tail _ (.head _))))
  have nl := N _ (.tail _ (.tail _ (.tail _ (.tail _ hl))))
  have lS : S < I := hlt _ (.head _)
  have ll : l < I := hlt _ (.tail _ hl)
  have lz : I < z := Nat.lt_trans hIT hTz
  refine call_extend_map (T := T) (I := I) (l := l) (its := (strValues rest).toArray) (rest := rest) hh ⟨Nat.ne_of_gt lz, Nat.ne_of_gt hIT, Nat.ne_of_lt ll⟩
    ⟨Nat.ne_of_gt (Nat.lt_trans lS lz), Nat.ne_of_gt (Nat.lt_trans lS hIT), Nat.ne_of_gt lS, hS _ hl⟩ ⟨nz.1, nT.1, ⟨_, nI.1, rfl, rfl⟩, ⟨_, nl.1, rfl, n, rfl⟩⟩ rfl nS.1 hz fun h' c' hS' hk => ?_
  refine h h' c' ?_ ?_
  · obtain ⟨⟨oL, es, ep, hL, hr⟩, hkp, ha⟩ := F
    refine ⟨⟨oL, es, ep, hk _ _ nS.2.1.symm nI.2.1.symm hL, hr⟩, fun b o e => hk _ _ (fun q => ?_) (fun q => ?_) (hkp b o e), ha⟩
    · subst q; rw [nS.2.2] at e; cases e
    · subst q; rw [nI.2.2] at e; cases e
  · intro p hp
    rcases List.mem_cons.mp hp with rfl | hp
    · exact ⟨hS', nS.2⟩
    · have np := N p (.tail _ (.tail _ (.tail _ (.tail _ hp))))
      exact ⟨hk _ _ (hS p hp) (Nat.ne_of_lt (hlt p (.tail _ hp))) np.1, np.2⟩
end
end
end Mine
namespace Mine
section
theorem len_list (x : Str) : x.cps.toList.length = x.length := by simp [Str.length]
theorem slice_to {x : Str} {j : Nat} (h : j ≤ x.length) : Txt.slice x none (some (j : Int)) = ⟨(x.cps.toList.take j).toArray⟩ := by
  have := StrLaws.sliceText_to (x := x) (j := (j : Int)) ⟨by omega, by simpa [Str.length] using h⟩
  rw [show Txt.slice x none (some (j : Int)) = StrLaws.sliceText x none (some (j : Int)) from rfl, this]
  simp
theorem slice_from {x : Str} {i : Nat} (h : i ≤ x.length) : Txt.slice x (some (i : Int)) none = ⟨(x.cps.toList.drop i).toArray⟩ := by
  have := StrLaws.sliceText_from (x := x) (i := (i : Int)) ⟨by omega, by simpa [Str.length] using h⟩
  rw [show Txt.slice x (some (i : Int)) none = StrLaws.sliceText x (some (i : Int)) none from rfl, this]
  congr 2
  refine List.take_of_length_le ?_
  rw [List.length_drop]
  omega
theorem slice_mid {x : Str} {i j : Nat} (hij : i ≤ j) (h : j ≤ x.length) : Txt.slice x (some (i : Int)) (some (j : Int)) = ⟨((x.cps.toList.drop i).take (j - i)).toArray⟩ :=
  StrLaws.sliceText_nat x hij h
theorem item_at {x : Str} {i c : Nat} (h : x.cps.toList[i]? = some c) : Txt.item x (i : Int) = ⟨#[c]⟩ := by
  have hi : i < x.length := by
    have := List.getElem?_eq_some_iff.mp h
    obtain ⟨hl, _⟩ := this
    rw [len_list] at hl; exact hl
  unfold Txt.item Txt.charAt
  rw [StrLaws.at_nonneg (n := c) (by omega) (by rw [← Array.getElem?_toList]; simpa using h)]
  rfl
theorem one_eq {c d : Nat} : ((⟨#[c]⟩ : Str) == ⟨#[d]⟩) = decide (c = d) := one_beq
theorem quote_is : Str.ofString "\"" = ⟨#[34]⟩ := by decide +kernel
/-- a reply's text: the head, the doubled text, the closing quote, what stands behind -/
structure Reply (x : Str) (inner tail : List Nat) : Prop where
  is : x.cps.toList = [50, 53, 55, 32, 34] ++ StrLaws.dbl 34 inner ++ 34 :: tail
  behind : tail.head? ≠ some 34
def Pos257 (inner : List Nat) (i : Int) (d : Str) : Prop := ∃ j, j ≤ inner.length ∧ i = 5 + ((StrLaws.dbl 34 (inner.take j)).length : Int) ∧ d.cps.toList = inner.take j
theorem len_dbl (c : Nat) : ∀ l : List Nat, l.length ≤ (StrLaws.dbl c l).length
  | [] => Nat.le_refl _
  | k :: r => by
    have := len_dbl c r
    unfold StrLaws.dbl
    split <;> simp <;> omega
section
variable {x d : Str} {inner tail : List Nat} {i : Int}
theorem Reply.len (h : Reply x inner tail) : x.length = 6 + (StrLaws.dbl 34 inner).length + tail.length := by
  rw [← len_list, h.is]; simp; omega
theorem Reply.at (h : Reply x inner tail) {j : Nat} : x.cps.toList.drop (5 + (StrLaws.dbl 34 (inner.take j)).length) = StrLaws.dbl 34 (inner.drop j) ++ 34 :: tail := by
  rw [h.is]
  have e : StrLaws.dbl 34 inner = StrLaws.dbl 34 (inner.take j) ++ StrLaws.dbl 34 (inner.drop j) := by rw [← StrLaws.dbl_append, List.take_append_drop]
  rw [e]
  have : [50, 53, 55, 32, 34] ++ (StrLaws.dbl 34 (inner.take j) ++ StrLaws.dbl 34 (inner.drop j)) ++ 34 :: tail = ([50, 53, 55, 32, 34] ++ StrLaws.dbl 34 (inner.take j)) ++ (StrLaws.dbl 34 (inner.drop j) ++ 34 :: tail) := by simp
  rw [this]
  refine List.drop_left' ?_
  simp; omega
theorem Reply.head (h : Reply x inner tail) : (Txt.slice x none (some 3) != Str.ofString "257") = false := by
  have hl := h.len
  have e := slice_to (x := x) (j := 3) (by omega)
  rw [show ((3 : Nat) : Int) = 3 from rfl] at e
  rw [e, h.is]
  show ((⟨#[50, 53, 55]⟩ : Str) != Str.ofString "257") = false
  decide +kernel
theorem Reply.head2 (h : Reply x inner tail) : (Txt.slice x (some 3) (some 5) != Str.ofString " \"") = false := by
  have hl := h.len
  have e := slice_mid (x := x) (i := 3) (j := 5) (by omega) (by omega)
  rw [show ((3 : Nat) : Int) = 3 from rfl, show ((5 : Nat) : Int) = 5 from rfl] at e
  rw [e, h.is]
  show ((⟨#[32, 34]⟩ : Str) != Str.ofString " \"") = false
  decide +kernel
theorem Reply.start (_ : Reply x inner tail) : Pos257 inner 5 (Str.ofString "") := ⟨0, Nat.zero_le _, rfl, (show (Str.ofString "").cps.toList = ([] : List Nat) from by decide +kernel)⟩
theorem Pos257.len (h : Pos257 inner i d) : d.length ≤ inner.length := by
  obtain ⟨j, hj, _, hd⟩ := h
  rw [← len_list, hd, List.length_take]
  omega
theorem Pos257.lt (hr : Reply x inner tail) (h : Pos257 inner i d) : 5 ≤ i ∧ i < x.length ∧ d.length ≤ x.length := by
  have hd := h.len
  obtain ⟨j, hj, hi, _⟩ := h
  have hl := hr.len
  have e : StrLaws.dbl 34 inner = StrLaws.dbl 34 (inner.take j) ++ StrLaws.dbl 34 (inner.drop j) := by rw [← StrLaws.dbl_append, List.take_append_drop]
  have hlen := len_dbl 34 inner
  rw [e, List.length_append] at hl hlen
  refine ⟨by omega, by omega, by omega⟩
theorem at_drop {l r : List Nat} {k c : Nat} (h : l.drop k = c :: r) : l[k]? = some c := by
  have := List.getElem?_drop (xs := l) (i := k) (j := 0)
  rw [h] at this
  simpa using this.symm
theorem at_drop1 {l r : List Nat} {k c : Nat} (h : l.drop k = c :: r) : l.drop (k + 1) = r := by
  have : l.drop (k + 1) = (l.drop k).drop 1 := by rw [List.drop_drop]
  rw [this, h]; rfl
theorem take_next {l r : List Nat} {j c : Nat} (h : l.drop j = c :: r) : l.take (j + 1) = l.take j ++ [c] ∧ j + 1 ≤ l.length := by
  have hj := at_drop h
  refine ⟨by rw [List.take_add_one, hj]; rfl, ?_⟩
  obtain ⟨hl, _⟩ := List.getElem?_eq_some_iff.mp hj
  omega
/-- where the reading stands: behind j signs, and the next sign -/
theorem pos_cases (hr : Reply x inner tail) (h : Pos257 inner i d) :
    (d = ⟨inner.toArray⟩ ∧ Txt.item x i = ⟨#[34]⟩ ∧ (i + 1 < x.length → ∃ c, c ≠ 34 ∧ Txt.item x (i + 1) = ⟨#[c]⟩)) ∨
    (∃ c, c ≠ 34 ∧ Txt.item x i = ⟨#[c]⟩ ∧ Pos257 inner (i + 1) (d ++ ⟨#[c]⟩)) ∨
    (Txt.item x i = ⟨#[34]⟩ ∧ i + 1 < x.length ∧ Txt.item x (i + 1) = ⟨#[34]⟩ ∧ Pos257 inner (i + 1 + 1) (d ++ ⟨#[34]⟩)) := by
  obtain ⟨j, hj, hi, hd⟩ := h
  have ha := hr.at (j := j)
  have hl := hr.len
  have hi' : i = ((5 + (StrLaws.dbl 34 (inner.take j)).length : Nat) : Int) := by omega
  generalize hn : 5 + (StrLaws.dbl 34 (inner.take j)).length = n at ha hi'
  cases hdj : inner.drop j with
  | nil =>
    left
    rw [hdj] at ha
    have ha' : x.cps.toList.drop n = 34 :: tail := ha
    have hjl : inner.length ≤ j := List.drop_eq_nil_iff.mp hdj
    refine ⟨?_, by rw [hi']; exact item_at (at_drop ha'), fun hlt => ?_⟩
    · rw [List.take_of_length_le hjl] at hd
      exact StrLaws.mk_of_toList hd
    · have h1 := at_drop1 ha'
      cases ht : tail with
      | nil =>
        rw [ht] at h1
        have := List.drop_eq_nil_iff.mp h1
        rw [len_list] at this
        omega
      | cons c r =>
        rw [ht] at h1
        refine ⟨c, ?_, ?_⟩
        · have := hr.behind
          rw [ht] at this
          exact fun e => this (by rw [e]; rfl)
        · rw [hi', show ((n : Nat) : Int) + 1 = ((n + 1 : Nat) : Int) by omega]
          exact item_at (at_drop h1)
  | cons c r =>
    right
    obtain ⟨ht, hj1⟩ := take_next hdj
    rw [hdj] at ha
    have hpos : d.cps.toList ++ [c] = inner.take (j + 1) := by rw [ht, hd]
    by_cases hc : c = 34
    · right
      subst hc
      have e : StrLaws.dbl 34 (34 :: r) = 34 :: 34 :: StrLaws.dbl 34 r := by simp [StrLaws.dbl]
      rw [e] at ha
      have ha' : x.cps.toList.drop n = 34 :: (34 :: (StrLaws.dbl 34 r ++ 34 :: tail)) := ha
      have h1 := at_drop1 ha'
      have h2 := at_drop h1
      obtain ⟨hl2, _⟩ := List.getElem?_eq_some_iff.mp h2
      rw [len_list] at hl2
      refine ⟨by rw [hi']; exact item_at (at_drop ha'), by omega, ?_, j + 1, hj1, ?_, ?_⟩
      · rw [hi', show ((n : Nat) : Int) + 1 = ((n + 1 : Nat) : Int) by omega]
        exact item_at h2
      · rw [ht, StrLaws.dbl_append, List.length_append, StrLaws.dbl_one]
        simp only [List.length_cons, List.length_nil]
        omega
      · rw [← hpos]; simp [Str.cps_append]
    · left
      have e : StrLaws.dbl 34 (c :: r) = c :: StrLaws.dbl 34 r := by simp [StrLaws.dbl, hc]
      rw [e] at ha
      have ha' : x.cps.toList.drop n = c :: (StrLaws.dbl 34 r ++ 34 :: tail) := ha
      refine ⟨c, hc, by rw [hi']; exact item_at (at_drop ha'), j + 1, hj1, ?_, ?_⟩
      · rw [ht, StrLaws.dbl_append, List.length_append, StrLaws.dbl_free 34 [c] (by simpa using fun e => hc e.symm)]
        simp only [List.length_cons, List.length_nil]
        omega
      · rw [← hpos]; simp [Str.cps_append]
theorem Pos257.inv (hr : Reply x inner tail) (h : Pos257 inner i d) : 5 ≤ i ∧ i < x.length ∧ d.length ≤ x.length ∧ Pos257 inner i d :=
  ⟨(h.lt hr).1, (h.lt hr).2.1, (h.lt hr).2.2, h⟩
theorem turn_plain (hr : Reply x inner tail) (h : Pos257 inner i d) (hq : (Txt.item x i == Str.ofString "\"") = false) :
    5 ≤ i + 1 ∧ i + 1 < x.length ∧ (d ++ Txt.item x i).length ≤ x.length ∧ Pos257 inner (i + 1) (d ++ Txt.item x i) := by
  rcases pos_cases hr h with ⟨_, e, _⟩ | ⟨c, _, e, hp⟩ | ⟨e, _⟩
  · rw [e, quote_is] at hq; exact absurd hq (by decide)
  · rw [e]; exact hp.inv hr
  · rw [e, quote_is] at hq; exact absurd hq (by decide)
theorem turn_quote (hr : Reply x inner tail) (h : Pos257 inner i d) (hq : (Txt.item x i == Str.ofString "\"") = true) (hn : ¬ (x.length : Int) ≤ i + 1) (hq2 : (Txt.item x (i + 1) != Str.ofString "\"") = false) :
    5 ≤ i + 1 + 1 ∧ i + 1 + 1 < x.length ∧ (d ++ Txt.item x i).length ≤ x.length ∧ Pos257 inner (i + 1 + 1) (d ++ Txt.item x i) := by
  rcases pos_cases hr h with ⟨_, e, h2⟩ | ⟨c, hc, e, hp⟩ | ⟨e, _, _, hp⟩
  · obtain ⟨c, hc, e2⟩ := h2 (by omega)
    rw [e2, quote_is] at hq2
    rw [bne, one_eq] at hq2
    simp [hc] at hq2
  · rw [e, quote_is, one_eq] at hq; simp [hc] at hq
  · rw [e]; exact hp.inv hr
theorem turn_end1 (hr : Reply x inner tail) (h : Pos257 inner i d) (hq : (Txt.item x i == Str.ofString "\"") = true) (hn : (x.length : Int) ≤ i + 1) : d = ⟨inner.toArray⟩ := by
  rcases pos_cases hr h with ⟨e, _⟩ | ⟨c, hc, e, hp⟩ | ⟨e, hl, _⟩
  · exact e
  · rw [e, quote_is, one_eq] at hq; simp [hc] at hq
  · omega
theorem turn_end2 (hr : Reply x inner tail) (h : Pos257 inner i d) (hq : (Txt.item x i == Str.ofString "\"") = true) (hq2 : (Txt.item x (i + 1) != Str.ofString "\"") = true) : d = ⟨inner.toArray⟩ := by
  rcases pos_cases hr h with ⟨e, _⟩ | ⟨c, hc, e, hp⟩ | ⟨_, _, e, _⟩
  · exact e
  · rw [e, quote_is, one_eq] at hq; simp [hc] at hq
  · rw [e, quote_is, bne, one_eq] at hq2; simp at hq2
end
end
end Mine
namespace Mine
section
def pieces : List Str := [Str.ofString "", Str.ofString "a", Str.ofString "\"", Str.ofString "\"\"", Str.ofString "/", Str.ofString ")"]
def agentS (n : Int) : Str := pieces.getD (Int.fmod (Int.fdiv n 12) 6).toNat Str.empty ++ pieces.getD (Int.fmod (Int.fdiv n 72) 6).toNat Str.empty
def portI (n : Int) : Int := Int.fmod (Int.fdiv n 432) 1000
def numAt (ns : List Int) (k : Int) : Int := ns.getD k.toNat 0
/-- the records below k, from the last to the first -/
def kidsDown (ns : List Int) (k : Int) : List Int := (rangeInts 4 (-1) (4 - k).toNat).filter fun j => Int.fmod (ns.getD j.toNat 0) j == k
def rowD (ns : List Int) (i : Nat) (k : Int) : Dat := .tuple [.str (agentS (numAt ns k)), .tuple [.int i, .int (portI (numAt ns k))], .int (kidsDown ns k).length]
/-- the rows that are drawn with these rows at hand and these records waiting -/
inductive Run (ns : List Int) : List Dat → List Int → List Dat → Prop where
  | done {rows : List Dat} : Run ns rows [] rows
  | step {rows R : List Dat} {st : List Int} {k : Int} : Run ns (rows ++ [rowD ns rows.length k]) (st ++ kidsDown ns k) R → Run ns rows (st ++ [k]) R
theorem snoc_inj {α : Type} {a b : List α} {x y : α} (h : a ++ [x] = b ++ [y]) : a = b ∧ x = y := by
  have := List.append_inj' h rfl
  exact ⟨this.1, by simpa using this.2⟩
theorem Run.nil_inv {ns : List Int} {rows R : List Dat} (h : Run ns rows [] R) : R = rows := by
  generalize hs : ([] : List Int) = stk at h
  cases h with
  | done => rfl
  | step _ => simp at hs
theorem Run.snoc_inv {ns : List Int} {rows R : List Dat} {st : List Int} {k : Int} (h : Run ns rows (st ++ [k]) R) : Run ns (rows ++ [rowD ns rows.length k]) (st ++ kidsDown ns k) R := by
  generalize hs : st ++ [k] = stk at h
  cases h with
  | done => simp at hs
  | step h =>
    obtain ⟨e1, e2⟩ := snoc_inj hs
    rw [e1, e2]; exact h
def wt (l : List Int) : Nat := (l.map fun k => 2 ^ (4 - k).toNat).sum
theorem wt_append (a b : List Int) : wt (a ++ b) = wt a + wt b := by simp [wt]
theorem wt_one (k : Int) : wt [k] = 2 ^ (4 - k).toNat := by simp [wt]
theorem wt_filter (p : Int → Bool) : ∀ l : List Int, wt (l.filter p) ≤ wt l
  | [] => Nat.le_refl _
  | k :: r => by
    have ih := wt_filter p r
    have e : wt (k :: r) = 2 ^ (4 - k).toNat + wt r := by simp [wt]
    have e' : wt (k :: r.filter p) = 2 ^ (4 - k).toNat + wt (r.filter p) := by simp [wt]
    generalize 2 ^ (4 - k).toNat = b at e e'
    by_cases h : p k = true
    · rw [List.filter_cons_of_pos h]; omega
    · rw [List.filter_cons_of_neg h]; omega
theorem wt_length (l : List Int) : l.length ≤ wt l := by
  induction l with
  | nil => exact Nat.le_refl _
  | cons k r ih =>
    have e : wt (k :: r) = 2 ^ (4 - k).toNat + wt r := by simp [wt]
    have : 1 ≤ 2 ^ (4 - k).toNat := Nat.one_le_two_pow
    rw [e, List.length_cons]; omega
theorem wt_kids (ns : List Int) {k : Int} (h0 : 0 ≤ k) (h4 : k ≤ 4) : wt (kidsDown ns k) + 1 ≤ 2 ^ (4 - k).toNat := by
  have h := wt_filter (fun j => Int.fmod (ns.getD j.toNat 0) j == k) (rangeInts 4 (-1) (4 - k).toNat)
  have hk : k = 0 ∨ k = 1 ∨ k = 2 ∨ k = 3 ∨ k = 4 := by omega
  have e : wt (rangeInts 4 (-1) (4 - k).toNat) + 1 ≤ 2 ^ (4 - k).toNat := by rcases hk with rfl | rfl | rfl | rfl | rfl <;> decide
  show wt (List.filter _ _) + 1 ≤ _
  omega
theorem mem_down {k j : Int} (h : j ∈ rangeInts 4 (-1) (4 - k).toNat) : k < j ∧ j ≤ 4 := by
  unfold rangeInts at h
  obtain ⟨i, hi, rfl⟩ := List.mem_map.mp h
  have := List.mem_range.mp hi
  omega
theorem mem_kids {ns : List Int} {k j : Int} (h : j ∈ kidsDown ns k) : k < j ∧ j ≤ 4 := mem_down (List.mem_filter.mp h).1
theorem kids_le (ns : List Int) {k : Int} (h0 : 0 ≤ k) (h4 : k ≤ 4) : (kidsDown ns k).length ≤ 16 := by
  have h1 := wt_kids ns h0 h4
  have h2 := wt_length (kidsDown ns k)
  have hk : k = 0 ∨ k = 1 ∨ k = 2 ∨ k = 3 ∨ k = 4 := by omega
  have : 2 ^ (4 - k).toNat ≤ 16 := by rcases hk with rfl | rfl | rfl | rfl | rfl <;> decide
  omega
theorem run_exists (ns : List Int) : ∀ (n : Nat) (rows : List Dat) (stk : List Int), wt stk ≤ n → (∀ k ∈ stk, 0 ≤ k ∧ k ≤ 4) → ∃ R, Run ns rows stk R
  | 0, rows, stk, h, _ => by
    have := wt_length stk
    have e : stk = [] := List.length_eq_zero_iff.mp (by omega)
    subst e
    exact ⟨rows, .done⟩
  | n + 1, rows, stk, h, hb => by
    rcases List.eq_nil_or_concat stk with rfl | ⟨st, k, rfl⟩
    · exact ⟨rows, .done⟩
    · rw [List.concat_eq_append] at h hb ⊢
      have hk := hb k (by simp)
      have h1 := wt_kids ns hk.1 hk.2
      rw [wt_append, wt_one] at h
      obtain ⟨R, hR⟩ := run_exists ns n (rows ++ [rowD ns rows.length k]) (st ++ kidsDown ns k) (by rw [wt_append]; omega) (by
        intro j hj
        rcases List.mem_append.mp hj with hj | hj
        · exact hb j (by simp [hj])
        · have := mem_kids hj; omega)
      exact ⟨R, .step hR⟩
theorem port_lt (n : Int) : 0 ≤ portI n ∧ portI n < 1000 := by
  unfold portI
  have e : Int.fmod (Int.fdiv n 432) 1000 = (Int.fdiv n 432) % 1000 := Int.fmod_eq_emod_of_nonneg _ (by decide)
  rw [e]
  exact ⟨Int.emod_nonneg _ (by decide), Int.emod_lt_of_pos _ (by decide)⟩
theorem piece_in (i : Nat) : pieces.getD i Str.empty ∈ pieces := by
  by_cases h : i < 6
  · have : i = 0 ∨ i = 1 ∨ i = 2 ∨ i = 3 ∨ i = 4 ∨ i = 5 := by omega
    rcases this with rfl | rfl | rfl | rfl | rfl | rfl <;> simp [pieces]
  · have e : pieces.getD i Str.empty = Str.empty := by
      have hn : pieces[i]? = none := List.getElem?_eq_none (by show 6 ≤ i; omega)
      rw [List.getD, hn]
      rfl
    rw [e, show Str.empty = Str.ofString "" from by decide +kernel]
    simp [pieces]
theorem agent_all {P : Str → Prop} (h : ∀ p ∈ pieces, ∀ q ∈ pieces, P (p ++ q)) (n : Int) : P (agentS n) := h _ (piece_in _) _ (piece_in _)
theorem agent_ok (n : Int) : PyData.strOk (agentS n) = true := agent_all (P := fun x => PyData.strOk x = true) (by decide +kernel) n
theorem row_ok (ns : List Int) (i : Nat) (k : Int) : kqdOk 8 (rowD ns i k) = true := by simp [rowD, kqdOk, agent_ok]
theorem Run.ok {ns : List Int} {rows R : List Dat} {stk : List Int} (h : Run ns rows stk R) (hr : ∀ d ∈ rows, kqdOk 8 d = true) : ∀ d ∈ R, kqdOk 8 d = true := by
  induction h with
  | done => exact hr
  | step _ ih =>
    refine ih fun d hd => ?_
    rcases List.mem_append.mp hd with hd | hd
    · exact hr d hd
    · rw [List.mem_singleton.mp hd]; exact row_ok _ _ _
/-- a record's text -/
def recText (ag dl : Str) (rs : List Str) : Str := Txt.join (Str.ofString "\n") ((Str.ofString "User-agent: " ++ ag) :: (Str.ofString "Crawl-delay: " ++ dl) :: (match rs with | [] => [Str.ofString "Allow:"] | r => r))
def rule (x : Str) : Str := Str.ofString "257 \"" ++ Txt.replace x (Str.ofString "\"") (Str.ofString "\"\"") ++ Str.ofString "\""
def rulesOf (ns : List Int) (ts : List Str) (k : Int) (js : List Int) : List Str := (js.filter fun j => Int.fmod (ns.getD j.toNat 0) j == k).map fun j => rule (ts.getD j.toNat Str.empty)
def delayS (p : Int) : Str := Str.ofString "229 (|||" ++ Str.ofString (toString p) ++ Str.ofString "|)"
def recAt (ns : List Int) (ts : List Str) (k : Int) : Str := recText (agentS (ns.getD k.toNat 0)) (delayS (portI (ns.getD k.toNat 0))) (rulesOf ns ts k (rangeKs (k + 1) (4 - k).toNat))
/-- the texts behind so many turns, from the last record to the first -/
def tx (ns : List Int) : Nat → List Str
  | 0 => [Str.ofString "", Str.ofString "", Str.ofString "", Str.ofString "", Str.ofString ""]
  | n + 1 => (tx ns n).set (4 - n) (recAt ns (tx ns n) ((4 - n : Nat) : Int))
theorem tx_length (ns : List Int) : ∀ n, (tx ns n).length = 5
  | 0 => rfl
  | n + 1 => by rw [tx, List.length_set, tx_length ns n]
theorem len_dbl2 (c : Nat) : ∀ l : List Nat, (StrLaws.dbl c l).length ≤ 2 * l.length
  | [] => Nat.le_refl _
  | k :: r => by
    have := len_dbl2 c r
    unfold StrLaws.dbl
    split <;> simp <;> omega
theorem replace_list (x : Str) : Txt.replace x (Str.ofString "\"") (Str.ofString "\"\"") = ⟨(StrLaws.dbl 34 x.cps.toList).toArray⟩ :=
  replace_dbl x _ _ 34 (by decide +kernel) (by decide +kernel)
theorem replace_len (x : Str) : (Txt.replace x (Str.ofString "\"") (Str.ofString "\"\"")).length ≤ 2 * x.length := by
  rw [replace_list, ← len_list, ← len_list]
  exact len_dbl2 34 _
theorem rule_len (x : Str) : (rule x).length ≤ 2 * x.length + 6 := by
  unfold rule
  rw [Str.length_append, Str.length_append]
  have e1 : (Str.ofString "257 \"").length = 5 := by decide +kernel
  have e2 : (Str.ofString "\"").length = 1 := by decide +kernel
  have := replace_len x
  omega
theorem agent_len (n : Int) : (agentS n).length ≤ 4 := agent_all (P := fun x => x.length ≤ 4) (by decide +kernel) n
theorem port_len (n : Int) : (Str.ofString (toString (portI n))).length ≤ 10 := by
  have h := port_lt n
  rw [PySem.ofString_length]
  have h1 := int_text_length_le10 (a := portI n) (k := 3) (by decide) (by omega)
  omega
theorem delay_len (n : Int) : (delayS (portI n)).length ≤ 20 := by
  unfold delayS
  rw [Str.length_append, Str.length_append]
  have e1 : (Str.ofString "229 (|||").length = 8 := by decide +kernel
  have e2 : (Str.ofString "|)").length = 2 := by decide +kernel
  have := port_len n
  omega
theorem join_len (sep : Str) (ys : List Str) : (Txt.join sep ys).length = (ys.map (·.length)).sum + (ys.length - 1) * sep.length := PySem.size_glued sep ys
theorem rec_len {ag dl : Str} (rs : List Str) (hag : ag.length ≤ 4) (hdl : dl.length ≤ 20) : (recText ag dl rs).length ≤ 60 + (rs.map (·.length)).sum + rs.length := by
  have e1 : (Str.ofString "User-agent: ").length = 12 := by decide +kernel
  have e2 : (Str.ofString "Crawl-delay: ").length = 13 := by decide +kernel
  have e3 : (Str.ofString "Allow:").length = 6 := by decide +kernel
  have e4 : (Str.ofString "\n").length = 1 := by decide +kernel
  unfold recText
  rw [join_len, e4, Nat.mul_one]
  cases rs with
  | nil =>
    simp only [List.map_cons, List.map_nil, List.sum_cons, List.sum_nil, Str.length_append, List.length_cons, List.length_nil]
    omega
  | cons r rs =>
    simp only [List.map_cons, List.sum_cons, Str.length_append, List.length_cons]
    omega
theorem sum_filter (p : Int → Bool) (f : Int → Str) (g : Int → Nat) : ∀ js : List Int, (∀ j ∈ js, (f j).length ≤ g j) → (((js.filter p).map f).map (·.length)).sum ≤ (js.map g).sum
  | [], _ => Nat.le_refl _
  | j :: r, h => by
    have ih := sum_filter p f g r fun k hk => h k (.tail _ hk)
    have hj := h j (.head _)
    by_cases hp : p j = true
    · rw [List.filter_cons_of_pos hp]; simp only [List.map_cons, List.sum_cons]; omega
    · rw [List.filter_cons_of_neg hp]; simp only [List.map_cons, List.sum_cons]; omega
def Bd (j : Nat) : Nat := 64 * 4 ^ (4 - j)
theorem getD_set {l : List Str} {i j : Nat} {x : Str} : (l.set i x).getD j Str.empty = x ∨ (l.set i x).getD j Str.empty = l.getD j Str.empty := by
  rw [List.getD, List.getD, List.getElem?_set]
  split
  · split
    · left; rfl
    · right
      rename_i h1 h2
      subst h1
      rw [List.getElem?_eq_none (by omega)]
  · right; rfl
theorem getD_set_self {l : List Str} {i : Nat} {x : Str} (h : i < l.length) : (l.set i x).getD i Str.empty = x := by
  rw [List.getD, List.getElem?_set]
  simp [h]
theorem getD_set_ne {l : List Str} {i j : Nat} {x : Str} (h : i ≠ j) : (l.set i x).getD j Str.empty = l.getD j Str.empty := by
  rw [List.getD, List.getD, List.getElem?_set]
  simp [h]
theorem rules_le (ns : List Int) (ts : List Str) (k : Int) (js : List Int) : (rulesOf ns ts k js).length ≤ js.length := by
  rw [rulesOf, List.length_map]; exact List.length_filter_le _ _
theorem tx_bd (ns : List Int) : ∀ n, n ≤ 5 → ∀ j, ((tx ns n).getD j Str.empty).length ≤ Bd j
  | 0, _, j => by
    have : ((tx ns 0).getD j Str.empty).length = 0 := by
      by_cases h : j < 5
      · have : j = 0 ∨ j = 1 ∨ j = 2 ∨ j = 3 ∨ j = 4 := by omega
        rcases this with rfl | rfl | rfl | rfl | rfl <;> (show (Str.ofString "").length = 0; decide +kernel)
      · rw [List.getD, List.getElem?_eq_none (by rw [tx_length]; omega)]; rfl
    omega
  | n + 1, hn, j => by
    have ih := tx_bd ns n (by omega)
    by_cases hj : 4 - n = j
    · subst hj
      rw [tx, getD_set_self (by rw [tx_length]; omega)]
      have h1 := rec_len (rulesOf ns (tx ns n) ((4 - n : Nat) : Int) (rangeKs (((4 - n : Nat) : Int) + 1) (4 - ((4 - n : Nat) : Int)).toNat)) (agent_len (ns.getD (((4 - n : Nat) : Int)).toNat 0)) (delay_len (ns.getD (((4 - n : Nat) : Int)).toNat 0))
      have h2 := rules_le ns (tx ns n) ((4 - n : Nat) : Int) (rangeKs (((4 - n : Nat) : Int) + 1) (4 - ((4 - n : Nat) : Int)).toNat)
      have h3 := sum_filter (fun j => Int.fmod (ns.getD j.toNat 0) j == ((4 - n : Nat) : Int)) (fun j => rule ((tx ns n).getD j.toNat Str.empty)) (fun j => 2 * Bd j.toNat + 6) (rangeKs (((4 - n : Nat) : Int) + 1) (4 - ((4 - n : Nat) : Int)).toNat) (fun j _ => by
        have := rule_len ((tx ns n).getD j.toNat Str.empty)
        have := ih j.toNat
        omega)
      have h4 : 60 + ((rangeKs (((4 - n : Nat) : Int) + 1) (4 - ((4 - n : Nat) : Int)).toNat).map fun j => 2 * Bd j.toNat + 6).sum + (rangeKs (((4 - n : Nat) : Int) + 1) (4 - ((4 - n : Nat) : Int)).toNat).length ≤ Bd (4 - n) := by
        have : n = 0 ∨ n = 1 ∨ n = 2 ∨ n = 3 ∨ n = 4 := by omega
        rcases this with rfl | rfl | rfl | rfl | rfl <;> decide +kernel
      show (recText _ _ (rulesOf ns (tx ns n) _ _)).length ≤ _
      have h5 : ((rulesOf ns (tx ns n) ((4 - n : Nat) : Int) (rangeKs (((4 - n : Nat) : Int) + 1) (4 - ((4 - n : Nat) : Int)).toNat)).map (·.length)).sum ≤ ((rangeKs (((4 - n : Nat) : Int) + 1) (4 - ((4 - n : Nat) : Int)).toNat).map fun j => 2 * Bd j.toNat + 6).sum := h3
      omega
    · rw [tx, getD_set_ne hj]
      exact ih j
theorem Bd_le (j : Nat) : Bd j ≤ 16384 := by
  unfold Bd
  have : 4 ^ (4 - j) ≤ 4 ^ 4 := Nat.pow_le_pow_right (by decide) (by omega)
  omega
theorem tx_le (ns : List Int) {n : Nat} (h : n ≤ 5) (j : Nat) : ((tx ns n).getD j Str.empty).length ≤ 16384 := Nat.le_trans (tx_bd ns n h j) (Bd_le j)
end
end Mine
namespace Mine
section
/-- plain signs alone -/
def Asc (x : Str) : Prop := ∀ c ∈ x.cps.toList, c < 128
theorem asc_append {x y : Str} (hx : Asc x) (hy : Asc y) : Asc (x ++ y) := by
  intro c hc
  rw [Str.cps_append, Array.toList_append] at hc
  rcases List.mem_append.mp hc with h | h
  · exact hx c h
  · exact hy c h
theorem mem_dbl {c d : Nat} : ∀ {l : List Nat}, d ∈ StrLaws.dbl c l → d ∈ l
  | [], h => h
  | k :: r, h => by
    unfold StrLaws.dbl at h
    split at h
    · rcases List.mem_cons.mp h with h | h
      · rw [h]; exact .head _
      · rcases List.mem_cons.mp h with h | h
        · rw [h]; exact .head _
        · exact .tail _ (mem_dbl h)
    · rcases List.mem_cons.mp h with h | h
      · rw [h]; exact .head _
      · exact .tail _ (mem_dbl h)
theorem asc_rule {x : Str} (hx : Asc x) : Asc (rule x) := by
  unfold rule
  refine asc_append (asc_append (show Asc (Str.ofString "257 \"") from by unfold Asc; decide +kernel) ?_) (show Asc (Str.ofString "\"") from by unfold Asc; decide +kernel)
  rw [replace_list]
  intro c hc
  exact hx c (mem_dbl (c := 34) (by simpa using hc))
theorem asc_join {sep : Str} (hs : Asc sep) : ∀ {ys : List Str}, (∀ y ∈ ys, Asc y) → Asc (Str.join sep ys)
  | [], _ => by intro c hc; exact absurd hc (by simp [Str.join, Str.empty])
  | [y], h => h y (.head _)
  | x :: y :: r, h => asc_append (asc_append (h x (.head _)) hs) (asc_join hs (ys := y :: r) fun z hz => h z (.tail _ hz))
theorem join_eq (sep : Str) (ys : List Str) : Txt.join sep ys = Str.join sep ys := StrLaws.glued_eq_join sep ys
theorem asc_num {n : Int} (h : 0 ≤ n) : Asc (Str.ofString (toString n)) := by
  obtain ⟨m, rfl⟩ := Int.eq_ofNat_of_zero_le h
  intro c hc
  rw [KIN.signs_num] at hc
  obtain ⟨ch, hch, e⟩ := List.mem_map.mp hc
  have r := digit_range (Nat.isDigit_of_mem_toDigits (by decide) (by decide) hch)
  omega
theorem asc_agent (n : Int) : Asc (agentS n) := agent_all (P := fun x => Asc x) (by unfold Asc; decide +kernel) n
theorem asc_delay (n : Int) : Asc (delayS (portI n)) := by
  unfold delayS
  exact asc_append (asc_append (show Asc (Str.ofString "229 (|||") from by unfold Asc; decide +kernel) (asc_num (port_lt n).1)) (show Asc (Str.ofString "|)") from by unfold Asc; decide +kernel)
theorem asc_rec {ag dl : Str} {rs : List Str} (ha : Asc ag) (hd : Asc dl) (hr : ∀ r ∈ rs, Asc r) : Asc (recText ag dl rs) := by
  unfold recText
  rw [join_eq]
  refine asc_join (show Asc (Str.ofString "\n") from by unfold Asc; decide +kernel) fun y hy => ?_
  rcases List.mem_cons.mp hy with rfl | hy
  · exact asc_append (show Asc (Str.ofString "User-agent: ") from by unfold Asc; decide +kernel) ha
  · rcases List.mem_cons.mp hy with rfl | hy
    · exact asc_append (show Asc (Str.ofString "Crawl-delay: ") from by unfold Asc; decide +kernel) hd
    · cases rs with
      | nil => rw [List.mem_singleton.mp hy]; exact (show Asc (Str.ofString "Allow:") from by unfold Asc; decide +kernel)
      | cons r rs => exact hr y hy
theorem asc_empty : Asc Str.empty := fun _ h => absurd h (by simp [Str.empty])
theorem asc_tx (ns : List Int) : ∀ n j, Asc ((tx ns n).getD j Str.empty)
  | 0, j => by
    by_cases h : j < 5
    · have : j = 0 ∨ j = 1 ∨ j = 2 ∨ j = 3 ∨ j = 4 := by omega
      rcases this with rfl | rfl | rfl | rfl | rfl <;> exact (show Asc (Str.ofString "") from by unfold Asc; decide +kernel)
    · rw [List.getD, List.getElem?_eq_none (by rw [tx_length]; omega)]; exact asc_empty
  | n + 1, j => by
    rw [tx]
    rcases getD_set (l := tx ns n) (i := 4 - n) (j := j) (x := recAt ns (tx ns n) ((4 - n : Nat) : Int)) with e | e
    · rw [e]
      refine asc_rec (asc_agent _) (asc_delay _) fun r hr => ?_
      obtain ⟨i, _, rfl⟩ := List.mem_map.mp hr
      exact asc_rule (asc_tx ns n _)
    · rw [e]; exact asc_tx ns n j
theorem asc_ok {x : Str} (h : Asc x) : PyData.strOk x = true := by
  unfold PyData.strOk
  rw [← Array.all_toList, List.all_eq_true]
  intro c hc
  have := h c hc
  exact decide_eq_true (by omega)
def Tk (ns : List Int) (k : Int) : Str := (tx ns 5).getD k.toNat Str.empty
theorem tk_ok (ns : List Int) (k : Int) : PyData.strOk (Tk ns k) = true := asc_ok (asc_tx ns 5 _)
theorem tk_len (ns : List Int) (k : Int) : (Tk ns k).length ≤ 16384 := tx_le ns (Nat.le_refl _) _
theorem tx_keeps (ns : List Int) {n j : Nat} (hj : 5 ≤ n + j) : ∀ m, n + m ≤ 5 → (tx ns (n + m)).getD j Str.empty = (tx ns n).getD j Str.empty
  | 0, _ => rfl
  | m + 1, h => by
    rw [show n + (m + 1) = (n + m) + 1 from rfl, tx, getD_set_ne (by omega)]
    exact tx_keeps ns hj m (by omega)
/-- each text is its record's, the rules those of the texts below -/
theorem tk_is (ns : List Int) {k : Int} (h0 : 0 ≤ k) (h4 : k ≤ 4) : Tk ns k = recText (agentS (numAt ns k)) (delayS (portI (numAt ns k))) (((rangeKs (k + 1) (4 - k).toNat).filter fun j => Int.fmod (ns.getD j.toNat 0) j == k).map fun j => rule (Tk ns j)) := by
  obtain ⟨i, rfl⟩ := Int.eq_ofNat_of_zero_le h0
  have hi : i ≤ 4 := by omega
  unfold Tk
  have e1 := tx_keeps ns (n := (4 - i) + 1) (j := i) (by omega) i (by omega)
  rw [show 4 - i + 1 + i = 5 by omega] at e1
  have e2 : ((4 - (4 - i) : Nat) : Int) = (i : Int) := by omega
  rw [Int.toNat_natCast, e1, tx, show 4 - (4 - i) = i by omega, getD_set_self (by rw [tx_length]; omega)]
  unfold recAt rulesOf numAt
  rw [Int.toNat_natCast]
  congr 1
  refine List.map_congr_left fun j hj => ?_
  have hm := mem_rangeKs (List.mem_filter.mp hj).1
  have e3 := tx_keeps ns (n := 4 - i) (j := j.toNat) (by omega) (i + 1) (by omega)
  rw [show 4 - i + (i + 1) = 5 by omega] at e3
  rw [e3]
/-- the records below, from the first to the last -/
def kidsUp (ns : List Int) (k : Int) : List Int := (rangeKs (k + 1) (4 - k).toNat).filter fun j => Int.fmod (ns.getD j.toNat 0) j == k
theorem range_rev {k : Int} (h0 : 0 ≤ k) (h4 : k ≤ 4) : rangeInts 4 (-1) (4 - k).toNat = (rangeKs (k + 1) (4 - k).toNat).reverse := by
  have hk : k = 0 ∨ k = 1 ∨ k = 2 ∨ k = 3 ∨ k = 4 := by omega
  rcases hk with rfl | rfl | rfl | rfl | rfl <;> decide +kernel
theorem kids_rev (ns : List Int) {k : Int} (h0 : 0 ≤ k) (h4 : k ≤ 4) : kidsDown ns k = (kidsUp ns k).reverse := by
  unfold kidsDown kidsUp
  rw [range_rev h0 h4, List.filter_reverse]
end
end Mine
namespace Mine
section
theorem lay_strs : ∀ {xs : List Str}, (∀ x ∈ xs, PyData.strOk x = true) → PyData.canLayAll0 (xs.map .str) = true ∧ PyData.depthAll (xs.map .str) = 0
  | [], _ => ⟨rfl, rfl⟩
  | x :: r, h => by
    have ih := lay_strs (xs := r) fun y hy => h y (.tail _ hy)
    simp only [List.map_cons, PyData.canLayAll0, PyData.depthAll, PyData.canLay0, PyData.depth, h x (.head _), ih.1, ih.2, Bool.and_self, true_and]
    rfl
theorem shaped_strs {xs : List Str} (h : ∀ x ∈ xs, PyData.strOk x = true) : SeqAt.shaped (.list (xs.map .str)) = true := by
  have := lay_strs h
  unfold SeqAt.shaped
  simp [PyData.canLay0, PyData.depth, this.1, this.2]
theorem eqv_nil (xs : List Str) : PyData.eqv (.list (xs.map .str)) (.list []) = xs.isEmpty := by
  cases xs <;> simp [PyData.eqv, PyData.eqvAll]
section
variable {prog : Program} {w : World} {A : Around} {E : Value → Shared → Prop} {s : Shared} {h₀ : Heap} {L : Addr} {news : List (Addr × Obj)}
theorem ne_nil_K {a b : Addr} {vs : List Value} {xs : List Str} {n n2 : Nat} {Q : Value → Shared → Prop} (N : News h₀ L s.heap news) (ha : (a, W.listOf vs.toArray n) ∈ news) (hb : (b, W.listOf #[] n2) ∈ news) (hs : StrsAre vs xs) (hx : ∀ x ∈ xs, PyData.strOk x = true) (hu : A.units + 64 < cLine)
    (h : Q (.bool (!xs.isEmpty)) s) : wpAny (model prog w) A (compareOp .NotEq (.ref a) (.ref b)) Q E s := by
  refine ne_dataH (reads_list_at (N.get ha) rfl rfl (by simpa using hs.reads s.heap)) (reads_list_at (xs := []) (as := []) (N.get hb) rfl rfl .nil) (shaped_strs hx) (by decide +kernel) hu ?_
  rw [eqv_nil]
  exact h
theorem eq_nil_K {a b : Addr} {vs : List Value} {xs : List Str} {n n2 : Nat} {Q : Value → Shared → Prop} (N : News h₀ L s.heap news) (ha : (a, W.listOf vs.toArray n) ∈ news) (hb : (b, W.listOf #[] n2) ∈ news) (hs : StrsAre vs xs) (hx : ∀ x ∈ xs, PyData.strOk x = true) (hu : A.units + 64 < cLine)
    (h : Q (.bool xs.isEmpty) s) : wpAny (model prog w) A (compareOp .Eq (.ref a) (.ref b)) Q E s := by
  refine eq_dataH (reads_list_at (N.get ha) rfl rfl (by simpa using hs.reads s.heap)) (reads_list_at (xs := []) (as := []) (N.get hb) rfl rfl .nil) (shaped_strs hx) (by decide +kernel) hu ?_
  rw [eqv_nil]
  exact h
end
end
end Mine
namespace Mine
section
open Builtin Builtin.Str
/-- where a sign stands -/
def AtC (x : Str) (c hi i : Nat) : Bool := decide (i + 1 ≤ hi) && subAt x ⟨#[c]⟩ i
theorem occ_run (x : Str) (c hi lim : Nat) : ∀ (m cur : Nat) (arr : Array Nat) (free : Nat), free ≤ cur →
    (forIn (List.range' cur m) (arr, free) (StrLaws.occBody x ⟨#[c]⟩ hi lim)).run.fst.toList = arr.toList ++ ((List.range' cur m).filter (AtC x c hi)).take (lim - arr.size)
  | 0, cur, arr, free, _ => by
    show arr.toList = arr.toList ++ _
    simp
  | m + 1, cur, arr, free, hf => by
    rw [List.range'_succ, List.forIn_cons]
    have hl : (⟨#[c]⟩ : Str).length = 1 := rfl
    by_cases hA : AtC x c hi cur = true
    · rw [List.filter_cons_of_pos hA]
      have hA' := hA
      unfold AtC at hA'
      rw [Bool.and_eq_true, decide_eq_true_eq] at hA'
      by_cases hs : arr.size < lim
      · have hb : StrLaws.occBody x ⟨#[c]⟩ hi lim cur (arr, free) = ForInStep.yield (arr.push cur, cur + 1) := by
          unfold StrLaws.occBody
          simp [hs, hf, hl, hA'.1, hA'.2]
          rfl
        rw [hb]
        show (forIn (List.range' (cur + 1) m) (arr.push cur, cur + 1) (StrLaws.occBody x ⟨#[c]⟩ hi lim)).run.fst.toList = _
        rw [occ_run x c hi lim m (cur + 1) (arr.push cur) (cur + 1) (Nat.le_refl _), Array.toList_push, Array.size_push]
        rw [show lim - arr.size = (lim - (arr.size + 1)) + 1 by omega, List.take_succ_cons]
        simp
      · have hb : StrLaws.occBody x ⟨#[c]⟩ hi lim cur (arr, free) = ForInStep.yield (arr, free) := by
          unfold StrLaws.occBody
          simp [hs]
          rfl
        rw [hb]
        show (forIn (List.range' (cur + 1) m) (arr, free) (StrLaws.occBody x ⟨#[c]⟩ hi lim)).run.fst.toList = _
        rw [occ_run x c hi lim m (cur + 1) arr free (by omega), show lim - arr.size = 0 by omega]
        simp
    · rw [List.filter_cons_of_neg hA]
      have hb : StrLaws.occBody x ⟨#[c]⟩ hi lim cur (arr, free) = ForInStep.yield (arr, free) := by
        unfold StrLaws.occBody
        unfold AtC at hA
        simp only [Bool.and_eq_true, decide_eq_true_eq, not_and, Bool.not_eq_true] at hA
        by_cases h1 : cur + 1 ≤ hi
        · simp [hA h1, hl]
          rfl
        · simp [h1, hl]
          rfl
      rw [hb]
      show (forIn (List.range' (cur + 1) m) (arr, free) (StrLaws.occBody x ⟨#[c]⟩ hi lim)).run.fst.toList = _
      rw [occ_run x c hi lim m (cur + 1) arr free (by omega)]
theorem occ_is (x : Str) (c lo lim : Nat) : occurrences x ⟨#[c]⟩ lo x.length lim = ((List.range' lo (x.length + 1 - lo)).filter (AtC x c x.length)).take lim := by
  rw [StrLaws.occ_eq, occ_run x c x.length lim _ lo #[] lo (Nat.le_refl _)]
  simp
theorem atC_iff (x : Str) (c i : Nat) : AtC x c x.length i = true ↔ x.cps.toList[i]? = some c := by
  rw [← StrLaws.subAt_one x c i]
  unfold AtC
  rw [Bool.and_eq_true, decide_eq_true_eq]
  rfl
/-- the places of a sign in a part without it -/
theorem none_in {x : Str} {c lo : Nat} {a : List Nat} (h : ∀ i, i < a.length → x.cps.toList[lo + i]? = a[i]?) (hc : c ∉ a) : (List.range' lo a.length).filter (AtC x c x.length) = [] := by
  rw [List.filter_eq_nil_iff]
  intro i hi hA
  obtain ⟨j, hj, rfl⟩ := List.mem_range'.mp hi
  rw [Nat.one_mul] at hA
  rw [atC_iff, h j hj] at hA
  exact hc (List.mem_of_getElem? hA)
/-- the first place of a sign behind a start, and what is left to look through -/
theorem first_in {x : Str} {c lo : Nat} {a r : List Nat} (h : x.cps.toList.drop lo = a ++ c :: r) (hc : c ∉ a) :
    (List.range' lo (x.length + 1 - lo)).filter (AtC x c x.length) = (lo + a.length) :: (List.range' (lo + a.length + 1) (x.length + 1 - (lo + a.length + 1))).filter (AtC x c x.length) := by
  have hlen : x.length = lo + (a.length + 1 + r.length) := by
    have hle : lo ≤ x.cps.toList.length := by
      refine Nat.le_of_not_lt fun hq => ?_
      rw [List.drop_of_length_le (by omega)] at h
      simp at h
    have := congrArg List.length h
    rw [List.length_drop, List.length_append, List.length_cons, len_list] at this
    rw [len_list] at hle
    omega
  have hget : ∀ i, x.cps.toList[lo + i]? = (a ++ c :: r)[i]? := fun i => by rw [← h, List.getElem?_drop]
  have e : x.length + 1 - lo = a.length + (1 + (x.length + 1 - (lo + a.length + 1))) := by omega
  rw [e, ← List.range'_append_1, List.filter_append, none_in (x := x) (c := c) (a := a) (fun i hi => by rw [hget, List.getElem?_append_left hi]) hc, List.nil_append,
    ← List.range'_append_1, List.filter_append]
  have h1 : AtC x c x.length (lo + a.length) = true := by
    rw [atC_iff, hget]
    simp
  have h2 : (List.range' (lo + a.length) 1).filter (AtC x c x.length) = [lo + a.length] := by
    show List.filter _ [lo + a.length] = _
    rw [List.filter_cons_of_pos h1]; rfl
  rw [h2]
  rfl
theorem find_is {x : Str} {c : Nat} {a r : List Nat} (h : x.cps.toList = a ++ c :: r) (hc : c ∉ a) : Txt.find x ⟨#[c]⟩ = (a.length : Int) := by
  unfold Txt.find
  rw [occ_is, first_in (lo := 0) (a := a) (r := r) (by simpa using h) hc]
  simp
theorem find3_is {x : Str} {c i : Nat} {a r : List Nat} (h : x.cps.toList.drop i = a ++ c :: r) (hc : c ∉ a) : Txt.find3 x ⟨#[c]⟩ (i : Int) = ((i + a.length : Nat) : Int) := by
  unfold Txt.find3
  have e : fromIndex x.length (i : Int) = i := by unfold fromIndex; omega
  rw [e, occ_is, first_in h hc]
  simp
theorem sub_mid (x : Str) {a b c : List Nat} (h : x.cps.toList = a ++ b ++ c) : strSub x a.length (a.length + b.length) = ⟨b.toArray⟩ := by
  refine StrLaws.mk_of_toList ?_
  rw [StrLaws.strSub_toList, h]
  simp
theorem kind_asc {x : Str} (h : Asc x) : Builtin.Str.strKind x = 1 := by
  unfold Builtin.Str.strKind
  rw [if_pos]
  rw [← Array.all_toList, List.all_eq_true]
  intro c hc
  have := h c hc
  exact decide_eq_true (by omega)
theorem kind_pos (x : Str) : 1 ≤ Builtin.Str.strKind x := by
  unfold Builtin.Str.strKind
  split
  · exact Nat.le_refl _
  · split <;> omega
/-- a text cut at its first two line's ends -/
theorem split2 {x : Str} {a b r : List Nat} (h : x.cps.toList = a ++ 10 :: (b ++ 10 :: r)) (ha : 10 ∉ a) (hb : 10 ∉ b) :
    Txt.splitMax x ⟨#[10]⟩ 2 = [⟨a.toArray⟩, ⟨b.toArray⟩, ⟨r.toArray⟩] := by
  have hlen : x.length = a.length + 1 + (b.length + 1 + r.length) := by
    rw [← len_list, h]; simp; omega
  have hk1 : Builtin.Str.strKind (⟨#[10]⟩ : Str) = 1 := by decide +kernel
  have hocc : occurrences x ⟨#[10]⟩ 0 x.length (limitOf x 2) = [a.length, a.length + 1 + b.length] := by
    show occurrences x ⟨#[10]⟩ 0 x.length 2 = _
    rw [occ_is, first_in (lo := 0) (a := a) (r := b ++ 10 :: r) (by simpa using h) ha]
    rw [first_in (lo := 0 + a.length + 1) (a := b) (r := r) (by rw [h, show 0 + a.length + 1 = a.length + 1 by omega]; simp) hb]
    simp
  unfold Txt.splitMax
  rw [if_neg, hocc, if_neg (by simp), StrLaws.partsBetween_eq]
  · show [strSub x 0 a.length, strSub x (a.length + 1) (a.length + 1 + b.length), strSub x (a.length + 1 + b.length + 1) x.length] = _
    have e1 := sub_mid x (a := []) (b := a) (c := 10 :: (b ++ 10 :: r)) (by simpa using h)
    have e2 := sub_mid x (a := a ++ [10]) (b := b) (c := 10 :: r) (by rw [h]; simp)
    have e3 := sub_mid x (a := a ++ 10 :: (b ++ [10])) (b := r) (c := []) (by rw [h]; simp)
    simp only [List.length_nil, Nat.zero_add, List.length_append, List.length_cons] at e1 e2 e3
    rw [e1]
    rw [e2]
    rw [show x.length = a.length + (b.length + (0 + 1) + 1) + r.length by omega, show a.length + 1 + b.length + 1 = a.length + (b.length + (0 + 1) + 1) by omega, e3]
  · have := kind_pos x
    rw [hk1]
    simp only [Bool.or_eq_true, decide_eq_true_eq, not_or]
    have hy : (⟨#[10]⟩ : Str).length = 1 := rfl
    omega
end
end Mine
namespace Mine
section
theorem cat_list (a b : Str) : (a ++ b).cps.toList = a.cps.toList ++ b.cps.toList := by rw [Str.cps_append, Array.toList_append]
theorem mk_list (x : Str) : (⟨x.cps.toList.toArray⟩ : Str) = x := rfl
theorem str_eq {x y : Str} (h : x.cps.toList = y.cps.toList) : x = y := Str.ext' (Array.toList_inj.mp h)
theorem cut_left (a b : Str) {n : Nat} (h : a.length = n) : Txt.slice (a ++ b) none (some (n : Int)) = a := by
  subst h
  rw [slice_to (by rw [Str.length_append]; omega), cat_list]
  refine str_eq ?_
  rw [← len_list]
  simp
theorem cut_right (a b : Str) {n : Nat} (h : a.length = n) : Txt.slice (a ++ b) (some (n : Int)) none = b := by
  subst h
  rw [slice_from (by rw [Str.length_append]; omega), cat_list]
  refine str_eq ?_
  rw [← len_list]
  simp
theorem slice_past {x : Str} {i : Nat} (h : x.length ≤ i) : Txt.slice x (some (i : Int)) none = Str.ofString "" := by
  have hc := slice_sn_cases x (i : Int) (by omega)
  have hl : (Txt.slice x (some (i : Int)) none).length = 0 := by
    rcases hc with h1 | h1 <;> omega
  refine str_eq ?_
  have e : (Str.ofString "").cps.toList = [] := by decide +kernel
  rw [e]
  refine List.length_eq_zero_iff.mp ?_
  rw [len_list]; exact hl
def restOf (rs : List Str) : Str := match rs with | [] => Str.ofString "Allow:" | r => Str.join (Str.ofString "\n") r
theorem nl_list : (Str.ofString "\n").cps.toList = [10] := by decide +kernel
theorem nl_is : Str.ofString "\n" = ⟨#[10]⟩ := by decide +kernel
theorem rec_list (ag dl : Str) (rs : List Str) : (recText ag dl rs).cps.toList = (Str.ofString "User-agent: " ++ ag).cps.toList ++ 10 :: ((Str.ofString "Crawl-delay: " ++ dl).cps.toList ++ 10 :: (restOf rs).cps.toList) := by
  unfold recText
  rw [join_eq]
  cases rs with
  | nil =>
    show (Str.ofString "User-agent: " ++ ag ++ Str.ofString "\n" ++ (Str.ofString "Crawl-delay: " ++ dl ++ Str.ofString "\n" ++ Str.ofString "Allow:")).cps.toList = _
    simp only [cat_list, nl_list, restOf]
    simp
  | cons r rs =>
    show (Str.ofString "User-agent: " ++ ag ++ Str.ofString "\n" ++ (Str.ofString "Crawl-delay: " ++ dl ++ Str.ofString "\n" ++ Str.join (Str.ofString "\n") (r :: rs))).cps.toList = _
    simp only [cat_list, nl_list, restOf]
    simp
theorem free_cat {c : Nat} {a b : Str} (ha : c ∉ a.cps.toList) (hb : c ∉ b.cps.toList) : c ∉ (a ++ b).cps.toList := by
  rw [cat_list]
  exact fun h => (List.mem_append.mp h).elim ha hb
theorem rec_split {ag dl : Str} (rs : List Str) (ha : 10 ∉ ag.cps.toList) (hd : 10 ∉ dl.cps.toList) :
    Txt.splitMax (recText ag dl rs) (Str.ofString "\n") 2 = [Str.ofString "User-agent: " ++ ag, Str.ofString "Crawl-delay: " ++ dl, restOf rs] := by
  rw [nl_is, split2 (rec_list ag dl rs) (free_cat (by decide +kernel) ha) (free_cat (by decide +kernel) hd)]
theorem agent_nl (n : Int) : 10 ∉ (agentS n).cps.toList := agent_all (P := fun x => 10 ∉ x.cps.toList) (by decide +kernel) n
theorem num_digit {n : Int} (h : 0 ≤ n) : ∀ c ∈ (Str.ofString (toString n)).cps.toList, 48 ≤ c ∧ c ≤ 57 := by
  obtain ⟨m, rfl⟩ := Int.eq_ofNat_of_zero_le h
  intro c hc
  rw [KIN.signs_num] at hc
  obtain ⟨ch, hch, e⟩ := List.mem_map.mp hc
  have r := digit_range (Nat.isDigit_of_mem_toDigits (by decide) (by decide) hch)
  rw [← e]; exact r
theorem num_free {n : Int} (h : 0 ≤ n) {c : Nat} (hc : c < 48 ∨ 57 < c) : c ∉ (Str.ofString (toString n)).cps.toList := fun hm => by
  have := num_digit h c hm
  omega
theorem delay_nl (n : Int) : 10 ∉ (delayS (portI n)).cps.toList := free_cat (free_cat (by decide +kernel) (num_free (port_lt n).1 (by decide))) (by decide +kernel)
/-- lists joined by a sign that none holds are told by their text -/
theorem cut_first {c : Nat} : ∀ {a b r r' : List Nat}, c ∉ a → c ∉ b → a ++ c :: r = b ++ c :: r' → a = b ∧ r = r'
  | [], [], _, _, _, _, e => ⟨rfl, by simpa using e⟩
  | [], k :: b, _, _, _, hb, e => by
    simp only [List.nil_append, List.cons_append, List.cons.injEq] at e
    exact absurd (by rw [e.1]; exact .head _) hb
  | k :: a, [], _, _, ha, _, e => by
    simp only [List.nil_append, List.cons_append, List.cons.injEq] at e
    exact absurd (by rw [← e.1]; exact .head _) ha
  | k :: a, j :: b, r, r', ha, hb, e => by
    simp only [List.cons_append, List.cons.injEq] at e
    obtain ⟨h1, h2⟩ := cut_first (fun q => ha (.tail _ q)) (fun q => hb (.tail _ q)) e.2
    exact ⟨by rw [e.1, h1], h2⟩
theorem join_one (c : Nat) (x y : Str) (r : List Str) : (Str.join ⟨#[c]⟩ (x :: y :: r)).cps.toList = x.cps.toList ++ c :: (Str.join ⟨#[c]⟩ (y :: r)).cps.toList := by
  show (x ++ ⟨#[c]⟩ ++ Str.join ⟨#[c]⟩ (y :: r)).cps.toList = _
  rw [cat_list, cat_list]
  simp
theorem join_free {c : Nat} : ∀ {xs ys : List Str}, xs ≠ [] → ys ≠ [] → (∀ x ∈ xs, c ∉ x.cps.toList) → (∀ y ∈ ys, c ∉ y.cps.toList) → Str.join ⟨#[c]⟩ xs = Str.join ⟨#[c]⟩ ys → xs = ys
  | [], _, h, _, _, _, _ => absurd rfl h
  | _, [], _, h, _, _, _ => absurd rfl h
  | [x], [y], _, _, _, _, e => by rw [show x = y from e]
  | [x], y :: z :: r, _, _, hx, _, e => by
    have e' := congrArg (fun s : Str => s.cps.toList) e
    simp only [join_one] at e'
    have e'' : x.cps.toList = y.cps.toList ++ c :: (Str.join ⟨#[c]⟩ (z :: r)).cps.toList := e'
    exact absurd (by rw [e'']; simp) (hx x (.head _))
  | x :: w :: r, [y], _, _, _, hy, e => by
    have e' := congrArg (fun s : Str => s.cps.toList) e
    simp only [join_one] at e'
    have e'' : x.cps.toList ++ c :: (Str.join ⟨#[c]⟩ (w :: r)).cps.toList = y.cps.toList := e'
    exact absurd (by rw [← e'']; simp) (hy y (.head _))
  | x :: w :: r, y :: z :: q, _, _, hx, hy, e => by
    have e' := congrArg (fun s : Str => s.cps.toList) e
    simp only [join_one] at e'
    obtain ⟨e1, e2⟩ := cut_first (hx x (.head _)) (hy y (.head _)) e'
    have ih := join_free (xs := w :: r) (ys := z :: q) (by simp) (by simp) (fun a ha => hx a (.tail _ ha)) (fun a ha => hy a (.tail _ ha)) (str_eq e2)
    rw [str_eq e1, ih]
section
variable (p : Int)
theorem delay_list : (delayS p).cps.toList = [50, 50, 57, 32, 40, 124, 124, 124] ++ (Str.ofString (toString p)).cps.toList ++ [124, 41] := by
  unfold delayS
  rw [cat_list, cat_list]
  have e1 : (Str.ofString "229 (|||").cps.toList = [50, 50, 57, 32, 40, 124, 124, 124] := by decide +kernel
  have e2 : (Str.ofString "|)").cps.toList = [124, 41] := by decide +kernel
  rw [e1, e2]
theorem delay_length : (delayS p).length = 10 + (Str.ofString (toString p)).length := by
  rw [← len_list, delay_list]
  simp only [List.length_append, List.length_cons, List.length_nil, len_list]
  omega
variable (h : 0 ≤ p)
include h
theorem d1 : (Txt.slice (delayS p) none (some 3) != Str.ofString "229") = false := by
  have e := slice_to (x := delayS p) (j := 3) (by rw [delay_length]; omega)
  rw [show ((3 : Nat) : Int) = 3 from rfl] at e
  rw [e, delay_list]
  show ((⟨#[50, 50, 57]⟩ : Str) != Str.ofString "229") = false
  decide +kernel
theorem d2 : Txt.find (delayS p) (Str.ofString "(") = 4 := by
  rw [show Str.ofString "(" = ⟨#[40]⟩ from by decide +kernel, find_is (a := [50, 50, 57, 32]) (r := [124, 124, 124] ++ (Str.ofString (toString p)).cps.toList ++ [124, 41]) (by rw [delay_list]; simp) (by decide)]
  rfl
theorem d3 : Txt.find3 (delayS p) (Str.ofString ")") (4 + 1) = ((9 + (Str.ofString (toString p)).length : Nat) : Int) := by
  have e := find3_is (x := delayS p) (c := 41) (i := 5) (a := [124, 124, 124] ++ (Str.ofString (toString p)).cps.toList ++ [124]) (r := []) (by rw [delay_list]; simp) (by
    intro hm
    rcases List.mem_append.mp hm with hm | hm
    · rcases List.mem_append.mp hm with hm | hm
      · exact absurd hm (by decide)
      · exact num_free h (by decide) hm
    · exact absurd hm (by decide))
  rw [show Str.ofString ")" = ⟨#[41]⟩ from by decide +kernel, show (4 + 1 : Int) = ((5 : Nat) : Int) from rfl, e]
  simp only [List.length_append, List.length_cons, List.length_nil, len_list]
  omega
theorem d4 : Txt.item (delayS p) (4 + 1) = Str.ofString "|" := by
  rw [show Str.ofString "|" = ⟨#[124]⟩ from by decide +kernel, show (4 + 1 : Int) = ((5 : Nat) : Int) from rfl]
  refine item_at ?_
  rw [delay_list]
  simp
theorem d5 : Txt.item (delayS p) (((9 + (Str.ofString (toString p)).length : Nat) : Int) - 1) = Str.ofString "|" := by
  rw [show Str.ofString "|" = ⟨#[124]⟩ from by decide +kernel, show (((9 + (Str.ofString (toString p)).length : Nat) : Int) - 1) = ((8 + (Str.ofString (toString p)).length : Nat) : Int) by omega]
  refine item_at ?_
  rw [delay_list, ← len_list]
  generalize (Str.ofString (toString p)).cps.toList = ds
  have e : ([50, 50, 57, 32, 40, 124, 124, 124] ++ ds).length = 8 + ds.length := by simp only [List.length_append, List.length_cons, List.length_nil]
  rw [List.getElem?_append_right (by omega), e, Nat.sub_self]
  rfl
theorem d6 : Txt.split (Txt.slice (delayS p) (some (4 + 1)) (some ((9 + (Str.ofString (toString p)).length : Nat) : Int))) (Str.ofString "|") = [Str.ofString "", Str.ofString "", Str.ofString "", Str.ofString (toString p), Str.ofString ""] := by
  have es := slice_mid (x := delayS p) (i := 5) (j := 9 + (Str.ofString (toString p)).length) (by omega) (by rw [delay_length]; omega)
  rw [show (4 + 1 : Int) = ((5 : Nat) : Int) from rfl, es, show Str.ofString "|" = ⟨#[124]⟩ from by decide +kernel]
  have e0 : (Str.ofString "").cps.toList = [] := by decide +kernel
  refine join_free (by
    intro hn
    have := split_pos (⟨(List.take (9 + (Str.ofString (toString p)).length - 5) (List.drop 5 (delayS p).cps.toList)).toArray⟩ : Str) ⟨#[124]⟩
    rw [hn] at this
    exact absurd this (by decide)) (by simp) (StrLaws.split_free _ _) (by
    intro y hy
    simp only [List.mem_cons, List.not_mem_nil, or_false] at hy
    rcases hy with rfl | rfl | rfl | rfl | rfl
    · rw [e0]; simp
    · rw [e0]; simp
    · rw [e0]; simp
    · exact num_free h (by decide)
    · rw [e0]; simp) ?_
  rw [StrLaws.join_split]
  refine str_eq ?_
  rw [join_one, join_one, join_one, join_one, e0]
  show List.take (9 + (Str.ofString (toString p)).length - 5) (List.drop 5 (delayS p).cps.toList) = [] ++ 124 :: ([] ++ 124 :: ([] ++ 124 :: ((Str.ofString (toString p)).cps.toList ++ 124 :: (Str.ofString "").cps.toList)))
  rw [delay_list, e0, ← len_list]
  have : List.drop 5 ([50, 50, 57, 32, 40, 124, 124, 124] ++ (Str.ofString (toString p)).cps.toList ++ [124, 41]) = ([124, 124, 124] ++ (Str.ofString (toString p)).cps.toList ++ [124]) ++ [41] := by simp
  rw [this, List.take_left' (by simp only [List.length_append, List.length_cons, List.length_nil]; omega)]
  simp
end
end
end Mine
namespace Mine
section
/-- the replies that are left to read -/
def tailOf : List Str → Str
  | [] => Str.ofString ""
  | y :: ys => Str.join (Str.ofString "\n") ((y :: ys).map rule)
def tailL : List Str → List Nat
  | [] => []
  | y :: ys => 10 :: (tailOf (y :: ys)).cps.toList
theorem empty_list : (Str.ofString "").cps.toList = [] := by decide +kernel
theorem tail_list (y : Str) (ys : List Str) : (tailOf (y :: ys)).cps.toList = (rule y).cps.toList ++ tailL ys := by
  cases ys with
  | nil =>
    show (rule y).cps.toList = (rule y).cps.toList ++ []
    rw [List.append_nil]
  | cons z zs =>
    show (Str.join (Str.ofString "\n") (rule y :: rule z :: zs.map rule)).cps.toList = _
    rw [nl_is, join_one, ← nl_is]
    rfl
theorem rule_list (y : Str) : (rule y).cps.toList = [50, 53, 55, 32, 34] ++ StrLaws.dbl 34 y.cps.toList ++ [34] := by
  unfold rule
  rw [cat_list, cat_list, replace_list]
  have e1 : (Str.ofString "257 \"").cps.toList = [50, 53, 55, 32, 34] := by decide +kernel
  have e2 : (Str.ofString "\"").cps.toList = [34] := by decide +kernel
  rw [e1, e2]
theorem tail_head (ys : List Str) : (tailL ys).head? ≠ some 34 := by
  cases ys <;> simp [tailL]
theorem tail_reply (y : Str) (ys : List Str) : Reply (tailOf (y :: ys)) y.cps.toList (tailL ys) :=
  ⟨by rw [tail_list, rule_list]; simp, tail_head ys⟩
theorem dbl_len (c : Nat) : ∀ l : List Nat, ((StrLaws.dbl c l).length : Int) = (l.length : Int) + cnt c l
  | [] => by simp [StrLaws.dbl, cnt_nil]
  | k :: r => by
    have ih := dbl_len c r
    rw [cnt_cons]
    unfold StrLaws.dbl
    split
    · simp only [List.length_cons]; omega
    · simp only [List.length_cons]; omega
theorem count_cnt (y : Str) : Txt.count y (Str.ofString "\"") = cnt 34 y.cps.toList := by
  rw [quote_is, count_is]; rfl
theorem rule_length (y : Str) : (y.length : Int) + Txt.count y (Str.ofString "\"") + 6 = ((rule y).length : Int) := by
  rw [count_cnt, ← len_list (rule y), rule_list]
  have := dbl_len 34 y.cps.toList
  rw [len_list] at this
  simp only [List.length_append, List.length_cons, List.length_nil]
  omega
theorem tail_length (y : Str) (ys : List Str) : (tailOf (y :: ys)).length = (rule y).length + (tailL ys).length := by
  rw [← len_list, tail_list, List.length_append, len_list]
theorem tail_cut (y : Str) (ys : List Str) : Txt.slice (tailOf (y :: ys)) (some ((rule y).length : Int)) none = ⟨(tailL ys).toArray⟩ := by
  rw [slice_from (by rw [tail_length]; omega), tail_list, ← len_list]
  simp
theorem tail_end (y : Str) : (Txt.slice (tailOf [y]) (some ((rule y).length : Int)) none != Str.ofString "") = false := by
  rw [tail_cut]
  show ((⟨#[]⟩ : Str) != Str.ofString "") = false
  decide +kernel
theorem ne_of_list {x y : Str} (h : x.cps.toList ≠ y.cps.toList) : (x != y) = true := by
  rw [bne_iff_ne]
  exact fun e => h (by rw [e])
theorem tail_more (y z : Str) (zs : List Str) : (Txt.slice (tailOf (y :: z :: zs)) (some ((rule y).length : Int)) none != Str.ofString "") = true := by
  rw [tail_cut]
  refine ne_of_list ?_
  rw [empty_list]
  simp [tailL]
theorem tail_lt (y z : Str) (zs : List Str) : (rule y).length < (tailOf (y :: z :: zs)).length := by
  rw [tail_length]
  simp [tailL]
theorem tail_nl (y z : Str) (zs : List Str) : (Txt.item (tailOf (y :: z :: zs)) ((rule y).length : Int) != Str.ofString "\n") = false := by
  rw [item_at (c := 10) (by rw [tail_list, ← len_list, List.getElem?_append_right (Nat.le_refl _), Nat.sub_self]; rfl)]
  decide +kernel
theorem tail_next (y : Str) (ys : List Str) : Txt.slice (tailOf (y :: ys)) (some ((rule y).length + 1 : Int)) none = tailOf ys := by
  rw [show ((rule y).length + 1 : Int) = (((rule y).length + 1 : Nat) : Int) by omega]
  cases ys with
  | nil => exact slice_past (by rw [tail_length]; simp [tailL])
  | cons z zs =>
    rw [slice_from (by rw [tail_length]; simp [tailL]), tail_list, ← len_list]
    refine str_eq ?_
    show List.drop ((rule y).cps.toList.length + 1) ((rule y).cps.toList ++ 10 :: (tailOf (z :: zs)).cps.toList) = _
    rw [show (rule y).cps.toList ++ 10 :: (tailOf (z :: zs)).cps.toList = ((rule y).cps.toList ++ [10]) ++ (tailOf (z :: zs)).cps.toList by simp, List.drop_left' (by simp)]
theorem tail_first (y : Str) (ys : List Str) : (tailOf (y :: ys)).cps.toList.head? = some 50 := by
  rw [tail_list, rule_list]; simp
theorem tail_ne (y : Str) (ys : List Str) : (tailOf (y :: ys) != Str.ofString "") = true := by
  refine ne_of_list fun e => ?_
  have := tail_first y ys
  rw [e, empty_list] at this
  cases this
theorem tail_allow (y : Str) (ys : List Str) : (tailOf (y :: ys) != Str.ofString "Allow:") = true := by
  refine ne_of_list fun e => ?_
  have h1 := tail_first y ys
  rw [e] at h1
  exact absurd h1 (by decide +kernel)
theorem nil_ne : (tailOf [] != Str.ofString "") = false := by
  show (Str.ofString "" != Str.ofString "") = false
  decide +kernel
/-- what stands behind a record's two lines -/
theorem rest_cases (ys : List Str) : (ys = [] ∧ restOf (ys.map rule) = Str.ofString "Allow:") ∨ (ys ≠ [] ∧ restOf (ys.map rule) = tailOf ys) := by
  cases ys with
  | nil => exact .inl ⟨rfl, rfl⟩
  | cons y ys => exact .inr ⟨by simp, rfl⟩
theorem rest_allow {ys : List Str} (h : ys ≠ []) : (tailOf ys == Str.ofString "Allow:") = false := by
  cases ys with
  | nil => exact absurd rfl h
  | cons y ys =>
    have := tail_allow y ys
    rw [bne, Bool.not_eq_true'] at this
    exact this
end
end Mine
namespace Mine
section
open_top hd for PySem.Challenge.rw_ny0094_01
theorem top_off : True := by
  w_top off
  trivial
/-- what a call of a def of the text's own does: it ends, keeps all that stood, and answers -/
def Con (w : World) (mean : ExcName → Option Value) (mg mb : Str → Option Value) (D : Nat) (f : Addr) (vs : List Value) (pre : Heap → Prop) (post : Heap → Heap → Value → Prop) : Prop :=
  ∀ (dp un : Nat) (gd : Option (List Code)) (cn : Str) (cs : Scope) (a : Addr) (ccd : Value) (cl : List (Str × Addr)) (outer : List Env) (A₀ : Around) (base h₀ : Heap) (L : Addr) (m : Str → Option Value) (s : Shared) (Q E : Value → Shared → Prop),
    Below A₀ base outer h₀ → Fr h₀ L s.heap m → (hd.heap_39 w.params).In h₀ → Top hd.view_39 (looseW hd.view_39 []) mean mg mb h₀ → cs.kind = .function → dp + D < recursionLimit → un + 8 * D < cLine → pre s.heap →
    (∀ r h' tk', s.heap.StaysIn h' → post s.heap h' r → Q r { s with heap := h', toks := tk' }) →
    wpAny (model PySem.Challenge.rw_ny0094_01.row.prog w) (ktrTop dp un gd cn cs L a ccd cl outer) (call (.ref f) vs) Q E s
section
variable {prog : Program} {w : World} {A A₀ : Around} {s : Shared} {K : Frag} {L : Addr} {h₀ base : Heap} {m mg mb : Str → Option Value} {p : Program} {loose : List Str} {mean : ExcName → Option Value}
theorem stays_fr {h h' : Heap} (F : Fr h₀ L h m) (k : h.StaysIn h') : Fr h₀ L h' m := by
  obtain ⟨⟨oL, es, ep, hL, hr⟩, hk, ha⟩ := F
  exact ⟨⟨oL, es, ep, k _ _ hL, hr⟩, fun b o e => k _ _ (hk b o e), ha⟩
theorem stays_news {h h' : Heap} {news : List (Addr × Obj)} (N : News h₀ L h news) (k : h.StaysIn h') : News h₀ L h' news :=
  fun p hp => ⟨k _ _ (N p hp).1, (N p hp).2⟩
theorem enter_whole {env : Env} {outer : List Env} {R : Result → Shared → Prop} {name qual : Str} {params : Arguments} {body : List Stmt} {scope : Scope} {dV kV doc pm cdv ct oc : Value} {an od : Option Addr} {osl : Array (Option Value)} {f : Addr} {args : Args} {binds : List (Str × Value)}
    (B : Below A₀ base outer h₀) (F : Fr h₀ L s.heap m) (X₀ : K.In h₀) (T : Top p loose mean mg mb h₀) (hA : A.frames = some (env :: outer)) (hf : env.frame = some L) (hke : env.scope.kind = .function)
    (ho : K.lookup f = some ⟨oc, od, .func (fnOf name qual params body scope dV kV doc pm an cdv ct), osl⟩) (hcd : codeIn K cdv qual = true) (hroom : A.depth < recursionLimit)
    (hbind : BindsTo s (fnOf name qual params body scope dV kV doc pm an cdv ct) args binds) (hloc : ∀ y ∈ binds, scope.names.lookup y.1 = some .local)
    (h : ∀ g L' h₁, s.heap = g → Fr g L' h₁ (fun y => binds.reverse.lookup y) → News g L' h₁ [] → Below A base (env :: outer) g → K.In g → Top p loose mean mg mb g →
      wpAny (model prog w) (A.deeper (envOf qual scope L' f cdv)) (execs body (envOf qual scope L' f cdv))
        (fun fl s' => R (.ok (.ret (match fl with | .ret v => v | _ => .none))) s')
        (fun e s' => wpAny (model prog w) (A.deeper (envOf qual scope L' f cdv)) (leaving (envOf qual scope L' f cdv) e) (fun _ s'' => R (.error e) s'') (fun e' s'' => R (.error e') s'') s')
        { s with heap := h₁, toks := s.toks + binds.length })
    (hco : scope.isCoroutine = false) (hgen : scope.isGenerator = false) (hk : scope.kind = .function)
    (hcell : ∀ x ∈ scope.names, x.2 ≠ .cell) : codeAny (model prog w) A (.call (.ref f) args) R s := by
  obtain ⟨_, BG, st, _⟩ := groundX (R := R) B F (News.nil (h₀ := h₀) (L := L) (h := s.heap)) hA hf hke
  refine codeAny_call_def (fd := fnOf name qual params body scope dV kV doc pm an cdv ct) (body := body) (binds := binds) hroom ((X₀.keeps F.keep) _ _ ho) rfl (T.nolimit.keeps F.keep) (codeRec_of (X₀.keeps F.keep) hcd) rfl hbind hcell hloc (fun h₁ hns hk₁ => ?_) hco hgen hk
  exact h s.heap s.heap.objs.size h₁ rfl ⟨hns, hk₁, Nat.le_refl _⟩ News.nil BG (X₀.keeps F.keep) (T.keeps F.keep)
end
theorem con_use {w : World} {mean : ExcName → Option Value} {mg mb : Str → Option Value} {D : Nat} {f : Addr} {vs : List Value} {pre : Heap → Prop} {post : Heap → Heap → Value → Prop}
    {dp un : Nat} {gd : Option (List Code)} {cn : Str} {cs : Scope} {a : Addr} {ccd : Value} {cl : List (Str × Addr)} {outer : List Env} {A₀ : Around} {base h₀ : Heap} {L : Addr} {m : Str → Option Value} {s : Shared} {Q E : Value → Shared → Prop} {news : List (Addr × Obj)}
    (C : Con w mean mg mb D f vs pre post)
    (B : Below A₀ base outer h₀) (F : Fr h₀ L s.heap m) (X : (hd.heap_39 w.params).In h₀) (N : News h₀ L s.heap news) (T : Top hd.view_39 (looseW hd.view_39 []) mean mg mb h₀) (hk : cs.kind = .function) (hd : dp + D < recursionLimit) (hu : un + 8 * D < cLine) (hp : pre s.heap)
    (ret : ∀ r h' tk', Fr h₀ L h' m → News h₀ L h' news → s.heap.StaysIn h' → post s.heap h' r → Q r { s with heap := h', toks := tk' }) :
    wpAny (model PySem.Challenge.rw_ny0094_01.row.prog w) (ktrTop dp un gd cn cs L a ccd cl outer) (call (.ref f) vs) Q E s :=
  C _ _ _ _ _ _ _ _ _ _ _ _ _ _ _ _ _ B F X T hk hd hu hp fun r h' tk' k q => ret r h' tk' (stays_fr F k) (stays_news N k) k q
section
variable {prog : Program} {w : World} {A A₀ : Around} {s : Shared} {K : Frag} {L : Addr} {h₀ base : Heap} {m mg mb : Str → Option Value} {p : Program} {loose : List Str} {mean : ExcName → Option Value}
theorem enter_wholeC {env : Env} {outer : List Env} {R : Result → Shared → Prop} {name : Str} {params : Arguments} {body : List Stmt} {scope : Scope} {doc pm cdv oc : Value} {od : Option Addr} {osl : Array (Option Value)} {f : Addr} {args : List Value} {binds : List (Str × Value)}
    (B : Below A₀ base outer h₀) (F : Fr h₀ L s.heap m) (X₀ : K.In h₀) (T : Top p loose mean mg mb h₀) (hA : A.frames = some (env :: outer)) (hf : env.frame = some L) (hke : env.scope.kind = .function)
    (ho : K.lookup f = some ⟨oc, od, .func (docDef name params body scope pm cdv doc), osl⟩) (hcd : codeIn K cdv name = true) (hroom : A.depth < recursionLimit)
    (hbind : bindArgs (docDef name params body scope pm cdv doc) ⟨args, []⟩ = pure binds) (hkind : (binds.all fun y => scope.names.lookup y.1 == some .local || scope.names.lookup y.1 == some .cell) = true)
    (hnd : ((cellsFrom 0 scope.names []).map (·.1)).Nodup)
    (h : ∀ g L' h₁ tk cells, s.heap = g → Fr g L' h₁ (bindL (envOfC name scope L' f cdv).kindOf binds fun _ => none) → News g L' h₁ cells →
      CellsAre (bindC (envOfC name scope L' f cdv).kindOf binds fun _ => none) (cellsFrom (L' + 1) scope.names []) cells → Below A base (env :: outer) g → K.In g → Top p loose mean mg mb g →
      wpAny (model prog w) (A.deeper (envOfC name scope L' f cdv)) (execs body (envOfC name scope L' f cdv))
        (fun fl s' => R (.ok (.ret (match fl with | .ret v => v | _ => .none))) s')
        (fun e s' => wpAny (model prog w) (A.deeper (envOfC name scope L' f cdv)) (leaving (envOfC name scope L' f cdv) e) (fun _ s'' => R (.error e) s'') (fun e' s'' => R (.error e') s'') s')
        { s with heap := h₁, toks := tk })
    (hco : scope.isCoroutine = false) (hgen : scope.isGenerator = false) (hk : scope.kind = .function) : codeAny (model prog w) A (.call (.ref f) ⟨args, []⟩) R s := by
  obtain ⟨_, BG, st, _⟩ := groundX (R := R) B F (News.nil (h₀ := h₀) (L := L) (h := s.heap)) hA hf hke
  refine call_cells hroom ((X₀.keeps F.keep) _ _ ho) rfl (T.nolimit.keeps F.keep) (codeRec_of (X₀.keeps F.keep) hcd) hbind (kindsX hkind _) (fun h₁ tk F₁ C₁ => ?_) hco hgen hk
  obtain ⟨cells, NC, Y⟩ := Cl.news (h₀ := s.heap) (Nat.le_refl _) fun n c hm => ⟨C₁.cell n c (lookup_of_mem_nodup (cellsFrom_names scope.names 0 (s.heap.objs.size + 1) [] [] rfl ▸ hnd) hm), C₁.above n c hm⟩
  exact h s.heap s.heap.objs.size h₁ tk cells rfl F₁ NC Y BG (X₀.keeps F.keep) (T.keeps F.keep)
end
theorem con_ret {s : Shared} {g h' : Heap} {L' : Addr} {m' : Str → Option Value} {Q : Value → Shared → Prop} {post : Heap → Heap → Value → Prop} {r : Value} {tk' : Nat}
    (hret : ∀ r h' tk', s.heap.StaysIn h' → post s.heap h' r → Q r { s with heap := h', toks := tk' }) (hg : s.heap = g) (F : Fr g L' h' m') (hp : post g h' r) : Q r { s with heap := h', toks := tk' } := by
  subst hg
  exact hret _ _ _ F.keep hp
theorem isList_of_news {h₀ h : Heap} {L a : Addr} {its : Array Value} {n : Nat} {news : List (Addr × Obj)} (N : News h₀ L h news) (hm : (a, listOf its n) ∈ news) : h.IsList a its := by
  have := (N _ hm).1
  exact ⟨_, this, rfl, n, rfl⟩
def StopAt (P : Prop) : Prop := P
theorem stop_here {P : Prop} (h : StopAt P) : P := h
theorem wpAny_stop {α : Type} {M : Model} {A : Around} {E : Value → Shared → Prop} {s : Shared} {t : Sem α} {Q : α → Shared → Prop} (h : wpAny M A t (fun a s' => StopAt (Q a s')) E s) : wpAny M A t Q E s := h
theorem if_no {b : Bool} {P Q : Prop} (h : b = false) (q : Q) : if b = true then P else Q := by subst h; exact q
theorem if_yes {b : Bool} {P Q : Prop} (h : b = true) (q : P) : if b = true then P else Q := by subst h; exact q
section
variable {prog : Program} {w : World} {A : Around} {E : Value → Shared → Prop} {s : Shared} {h₀ : Heap} {L : Addr} {m : Str → Option Value} {env : Env}
theorem comp_range {elt iter : Expr} {x y : Str} {px py : Pos} {ifs : List Expr} {scope : Scope} {cl : List (Str × Addr)} {pos spos : Pos} {Q : Flow → Shared → Prop} {pz : Int → Bool} {d : Int → PyData} (_F : Fr h₀ L s.heap m)
    (hsw : swapsWith (.ListComp elt [⟨.Name x px, iter, ifs, 0⟩] scope pos) (some (.Name y py)) spos.line env = pure true) (hL : env.locals = L)
    (hh : A.handled = none) (hclos : closureFor scope env = pure cl) (hcell : ∀ z ∈ scope.names, z.2 ≠ .cell) (hkind : scope.kind = .function)
    (hnames : ∀ z ∈ scope.names, z.2 = .local → scope.names.lookup z.1 = some .local) (hx : scope.names.lookup x = some .local)
    (hy : env.kindOf y = some .local) (hp : (env.scope.kind == .class || (env.scope.kind == .module && env.locals != env.globals)) = false)
    (h : wpAny (model prog w) A (eval iter env) (fun xv s₁ => StopAt (∃ news : List (Addr × Obj), ∃ r a₀ b₀ c₀ t₀ u₀ v₀, ∃ n : Nat, xv = .ref r ∧ IsRange s₁.heap r a₀ b₀ c₀ t₀ u₀ v₀ ∧ Builtin.Range.small a₀ b₀ c₀ = true ∧ Builtin.Range.rangeSize a₀ b₀ c₀ = (n : Int) ∧ n ≤ sizeLine ∧ Fr h₀ L s₁.heap m ∧ News h₀ L s₁.heap news ∧
      (∀ C a v s₂ m₂ E', s₁.heap.objs.size ≤ C → a ∈ rangeInts a₀ c₀ n → ItemKind.int.is a v → s₂.heap.Ns (compEnvC scope cl C env).locals m₂ → m₂ x = some v → (∀ b o, s₁.heap.get? b = some o → s₂.heap.get? b = some o) →
        wpAny (model prog w) A (forIn ifs true fun c r => if r = true then do let ok ← isTrue c (compEnvC scope cl C env) (eval c (compEnvC scope cl C env)); pure (ForInStep.yield ok) else pure (ForInStep.yield r))
          (fun ok s₃ => ok = pz a ∧ Keeps s₂ s₃) E' s₂) ∧
      (∀ C a v s₂ m₂ E', s₁.heap.objs.size ≤ C → a ∈ rangeInts a₀ c₀ n → ItemKind.int.is a v → pz a = true → s₂.heap.Ns (compEnvC scope cl C env).locals m₂ → m₂ x = some v → (∀ b o, s₁.heap.get? b = some o → s₂.heap.get? b = some o) →
        wpAny (model prog w) A (eval elt (compEnvC scope cl C env)) (fun y s₃ => Carried y (d a) ∧ Keeps s₂ s₃) E' s₂) ∧
      (∀ D (ys : List Value) h' tk, Fr h₀ L h' (fun z => if z = y then some (.ref D) else m z) → News h₀ L h' news → h₀.get? D = none → h'.IsList D ys.toArray → NewPlain h' news D ys.toArray → CarriedAll ys (((rangeInts a₀ c₀ n).filter pz).map d) → Q .next { s₁ with heap := h', toks := tk }))) E s)
    (hs : ∀ x, foldedSetIterable iter env x = pure x) :
    wpAny (model prog w) A (exec (.Assign [.Name y py] (.ListComp elt [⟨.Name x px, iter, ifs, 0⟩] scope pos) spos) env) Q E s :=
  Assign_ListComp_DCr hsw hL hh hclos hcell hkind hnames hx hy hp h hs
end
theorem nil_or_snoc {α : Type} (l : List α) : l = [] ∨ ∃ st k, l = st ++ [k] := by
  rcases List.eq_nil_or_concat l with h | ⟨st, k, h⟩
  · exact .inl h
  · exact .inr ⟨st, k, by rw [h, List.concat_eq_append]⟩
theorem ints_snoc {wv : List Value} {st : List Int} {k : Int} (h : IntsAre wv (st ++ [k])) : ∃ wp t, wv = wp ++ [.int k t] ∧ IntsAre wp st := by
  induction st generalizing wv with
  | nil =>
    obtain ⟨t, vs', rfl, h'⟩ := IntsAre.cons_inv h
    rw [IntsAre.nil_inv h']
    exact ⟨[], t, rfl, .nil⟩
  | cons a st ih =>
    obtain ⟨t, vs', rfl, h'⟩ := IntsAre.cons_inv h
    obtain ⟨wp, t', rfl, h''⟩ := ih h'
    exact ⟨_ :: wp, t', rfl, .cons _ _ h''⟩
theorem news_plain {h₀ h : Heap} {L D : Addr} {m : Str → Option Value} {news : List (Addr × Obj)} {items : Array Value} (F : Fr h₀ L h m) (N : News h₀ L h news) (hD : h₀.get? D = none) (x : NewPlain h news D items) : ∃ n, News h₀ L h ((D, W.listOf items n) :: news) ∧ ∀ p ∈ news, p.1 ≠ D := by
  have hne := x.ne_locals F
  obtain ⟨⟨n, e⟩, hd⟩ := x
  refine ⟨n, fun p hp => ?_, hd⟩
  rcases List.mem_cons.mp hp with rfl | hp
  · exact ⟨e, hne, hD⟩
  · exact N p hp
theorem keeps_tok (s : Shared) (k : Nat) : Keeps s { s with toks := k } := ⟨s.heap, k, rfl, fun _ _ e => e⟩
section
variable {prog : Program} {w : World} {A : Around} {E : Value → Shared → Prop} {s : Shared} {h₀ : Heap} {L : Addr} {m : Str → Option Value} {news : List (Addr × Obj)}
theorem cat_K {l b : Addr} {vs ws : List Value} {n n2 : Nat} {Q : Value → Shared → Prop} (F : Fr h₀ L s.heap m) (N : News h₀ L s.heap news) (ha : (l, W.listOf vs.toArray n) ∈ news) (hb : (b, W.listOf ws.toArray n2) ∈ news) (hz : vs.length + ws.length ≤ sizeLine)
    (h : ∀ D h', Fr h₀ L h' m → News h₀ L h' ((D, W.listOf (vs ++ ws).toArray 0) :: news) → (∀ p ∈ news, p.1 < D) → Q (.ref D) { s with heap := h' }) : wpAny (model prog w) A (binaryOp .Add (.ref l) (.ref b)) Q E s :=
  add_lists (hsz := hz) F N (isList_of_news N ha) (isList_of_news N hb) fun h' F' N' => h _ h' F' N' fun p hp => Heap.lt_size (N p hp).1
end
theorem drawn_ret {g h : Heap} {L : Addr} {ra : Nat} {rest news : List (Addr × Obj)} {rv : List Value} {rn : Nat} {rows : List Dat} (N : News g L h news) (hm : (ra, W.listOf rv.toArray rn) ∈ news) (hs : ∀ p ∈ rest, p ∈ news) (hdat : DatAll rest rv rows) (hok : ∀ d ∈ rows, kqdOk 8 d = true) :
    ∃ as, Reads h (.ref ra) (.list (kqdPs rows)) as := by
  obtain ⟨as, ra⟩ := kqd_all N 8 (hdat.mono hs) hok
  exact ⟨_, reads_list_at (N.get hm) rfl rfl (by simpa [W.listOf] using ra)⟩
end
end Mine
namespace Mine
section
local macro_rules | `(tactic| tb_start) => `(tactic| ((case kA => exact rfl); (case kF => exact rfl); (case kK => assumption); (case k1 => k_asm); (case k2 => k_asm); (case k3 => k_asm);  (case k5 => k_asm); (case k6 => k_is); (case k7 => k_is); (case k8 => ktr_room); (case k9 => exact BindsTo.of_eq rfl); (case c5 => decide); (case kB => exact locs rfl); (case c2 => exact rfl); (case c3 => exact rfl); (case c4 => exact rfl)))
theorem port_con (w : World) (mean : ExcName → Option Value) (mg mb : Str → Option Value) (n : Int) (t : Tok) : Con w mean mg mb 1 135 [.int n t] (fun _ => True) (fun _ _ r => ∃ t', r = .int (portI n) t') := by
  unfold Con
  k_fill
  intro dp un gd cn cs a ccd cl outer A₀ base h₀ L m s Q E B F X T hk hd hu hpre hret
  refine wpAny_call ?_
  k_dflt (refine' enter_whole (binds := [(Str.ofString "number", .int n t)]) ?k1 ?k2 ?k3 ?k5 ?kA ?kF ?kK ?k6 ?k7 ?k8 ?k9 ?kB ?_ ?c2 ?c3 ?c4 ?c5)
  tb_start
  intro g' L' h' hg' F' N' B' X' T'
  try dsimp only
  clear B F X T
  try k_fold
  k_steps
  all_goals (dsimp only)
  exact con_ret (post := fun _ _ r => ∃ t', r = .int (portI n) t') hret hg' F' ⟨_, rfl⟩
theorem agent_con (w : World) (mean : ExcName → Option Value) (mg mb : Str → Option Value) (n : Int) (t : Tok) : Con w mean mg mb 1 128 [.int n t] (fun _ => True) (fun _ _ r => ∃ t', r = .str (agentS n) t') := by
  unfold Con
  k_fill
  intro dp un gd cn cs a ccd cl outer A₀ base h₀ L m s Q E B F X T hk hd hu hpre hret
  refine wpAny_call ?_
  k_dflt (refine' enter_whole (binds := [(Str.ofString "number", .int n t)]) ?k1 ?k2 ?k3 ?k5 ?kA ?kF ?kK ?k6 ?k7 ?k8 ?k9 ?kB ?_ ?c2 ?c3 ?c4 ?c5)
  tb_start
  intro g' L' h' hg' F' N' B' X' T'
  try dsimp only
  clear B F X T
  try k_fold
  k_with "table" => skip
  k_steps
  all_goals (dsimp only)
  k_unfold
  dsimp only
  exact con_ret (post := fun _ _ r => ∃ t', r = .str (agentS n) t') hret hg' (by assumption) ⟨_, rfl⟩
end
end Mine
namespace Mine
section
local macro_rules | `(tactic| tb_start) => `(tactic| ((case kA => exact rfl); (case kF => exact rfl); (case kK => assumption); (case k1 => k_asm); (case k2 => k_asm); (case k3 => k_asm);  (case k5 => k_asm); (case k6 => k_is); (case k7 => k_is); (case k8 => ktr_room); (case k9 => exact BindsTo.of_eq rfl); (case c5 => decide); (case kB => exact locs rfl); (case c2 => exact rfl); (case c3 => exact rfl); (case c4 => exact rfl)))
theorem numbers_con2 (w : World) (mean : ExcName → Option Value) (mg mb : Str → Option Value) (l : Addr) (vs : List Value) (ns : List Int) (hI : IntsAre vs ns) (hlen : ns.length ≤ 63) : Con w mean mg mb 1 121 [.ref l] (fun h => h.IsList l vs.toArray)
    (fun h h' r => ∃ D ws ms n, r = .ref D ∧ h'.get? D = some (W.listOf (List.toArray ws) n) ∧ h.get? D = none ∧ IntsAre ws ms ∧ ms.length = 5) := by
  unfold Con
  k_fill
  intro dp un gd cn cs a ccd cl outer A₀ base h₀ L m s Q E B F X T hk hd hu hpre hret
  refine wpAny_call ?_
  k_dflt (refine' enter_whole (binds := [(Str.ofString "script", .ref l)]) ?k1 ?k2 ?k3 ?k5 ?kA ?kF ?kK ?k6 ?k7 ?k8 ?k9 ?kB ?_ ?c2 ?c3 ?c4 ?c5)
  tb_start
  intro g' L' h' hg' F' N' B' X' T'
  try dsimp only
  clear B F X T
  have hL : g'.IsList l vs.toArray := hg' ▸ hpre
  try k_fold
  k_with_none
  k_with "pyIter ref" => k_state (fun pre nums => nums.length = 5) "numbers"
  k_steps
  all_goals (dsimp only)
  have n0 := kNews _ (.head _)
  exact con_ret (post := fun h h' r => ∃ D ws ms n, r = .ref D ∧ h'.get? D = some (W.listOf (List.toArray ws) n) ∧ h.get? D = none ∧ IntsAre ws ms ∧ ms.length = 5) hret hg' kFr ⟨_, _, _, _, rfl, n0.1, n0.2.2, kFacts, kInv⟩
end
end Mine
namespace Mine
section
local macro_rules | `(tactic| tb_start) => `(tactic| ((case kA => exact rfl); (case kF => exact rfl); (case kK => assumption); (case k1 => k_asm); (case k2 => k_asm); (case k3 => k_asm);  (case k5 => k_asm); (case k6 => k_is); (case k7 => k_is); (case k8 => ktr_room); (case k9 => exact BindsTo.of_eq rfl); (case c5 => decide); (case kB => exact locs rfl); (case c2 => exact rfl); (case c3 => exact rfl); (case c4 => exact rfl)))
theorem str_ret {d e : Str} {t : Tok} (h : d = e) : ∃ t', Value.str d t = .str e t' := ⟨t, by rw [h]⟩
theorem p257_con (w : World) (mean : ExcName → Option Value) (mg mb : Str → Option Value) (x : Str) (t : Tok) (inner tail : List Nat) (hx : x.length ≤ 100000) (hr : Reply x inner tail) : Con w mean mg mb 1 72 [.str x t] (fun _ => True) (fun _ _ r => ∃ t', r = .str ⟨inner.toArray⟩ t') := by
  unfold Con
  k_fill
  intro dp un gd cn cs a ccd cl outer A₀ base h₀ L m s Q E B F X T hk hd hu hpre hret
  refine wpAny_call ?_
  k_dflt (refine' enter_whole (binds := [(Str.ofString "resp", .str x t)]) ?k1 ?k2 ?k3 ?k5 ?kA ?kF ?kK ?k6 ?k7 ?k8 ?k9 ?kB ?_ ?c2 ?c3 ?c4 ?c5)
  tb_start
  intro g' L' h' hg' F' N' B' X' T'
  try dsimp only
  clear B F X T
  have h1 := hr.head
  have h2 := hr.head2
  try k_fold
  k_with_none
  k_with "ite" => refine if_no (by assumption) ?_
  k_with "state" => exact hr.start.inv hr
  k_with "state" => exact turn_plain hr (by assumption) (by assumption)
  k_with "state" => exact turn_quote hr (by assumption) (by assumption) (by assumption) (by assumption)
  k_with "exec While Compare cons nil" => k_while (fun script i d => 5 ≤ i ∧ i < x.length ∧ d.length ≤ x.length ∧ Pos257 inner i d) (fun script i d => x.length - i.toNat) "i" "dirname"
  k_steps
  all_goals (dsimp only)
  all_goals (repeat (first | (k_unfold; try dsimp only)))
  all_goals exact con_ret (post := fun _ _ r => ∃ t', r = .str ⟨inner.toArray⟩ t') hret hg' (by assumption) (str_ret (by first | exact turn_end2 hr (by assumption) (by assumption) (by assumption) | exact turn_end1 hr (by assumption) (by assumption) (by assumption)))
end
end Mine
namespace Mine
section
structure Dst where
  rest : List (Addr × Obj)
  rv : List Value
  rn : Nat
  wa : Nat
  wv : List Value
  wn : Nat
  kc : Obj
  kv : Option Value
  stk : List Int
  rows : List Dat
def Dst.led (ra nk nn : Nat) (no : Obj) (c : Dst) : List (Addr × Obj) := (c.wa, W.listOf c.wv.toArray c.wn) :: (ra, W.listOf c.rv.toArray c.rn) :: (nk, c.kc) :: (nn, no) :: c.rest
structure Dst.Ok (ra nk nn : Nat) (c : Dst) : Prop where
  kd : c.kc.data = .cell c.kv
  wints : IntsAre c.wv c.stk
  off : OwnOff c.rest [c.wa, ra, nk, nn]
  ne : ra < c.wa ∧ nk < ra ∧ nn < nk
  dat : DatAll c.rest c.rv c.rows
theorem drawn_end {g h : Heap} {L : Addr} {s : Shared} {m₀ m' : Str → Option Value} {ra nk nn wa Wa D l' D1 D2 : Nat} {nc o' kc x1 x2 x3 : Obj} {kv : Option Value} {rest : List (Addr × Obj)} {rv wp ys : List Value} {rn wn tk : Nat} {st ns : List Int} {k : Int} {rows R : List Dat} {wt9 t1 t2 t3 t4 : Tok} {stored : List Str} {wv : List Value}
    (F : Fr g L h m') (N : News g L h ((Wa, W.listOf (wp ++ ys).toArray 0) :: (D2, { cls := .type "tuple", data := .seq #[.str (agentS (ns.getD k.toNat 0)) t1, .ref D1, .int ((kidsDown ns k).length : Int) t2] }) :: (D1, { cls := .type "tuple", data := .seq #[.int (rows.length : Int) t3, .int (portI (ns.getD k.toNat 0)) t4] }) ::
      (D, x1) :: (l', x2) :: (wa, x3) :: (ra, W.listOf (rv.toArray.push (.ref D2)) (rn + 1)) :: (nk, o') :: (nn, nc) :: rest))
    (hW : D2 < Wa ∧ D1 < Wa ∧ D < Wa ∧ l' < Wa ∧ wa < Wa ∧ ra < Wa ∧ nk < Wa ∧ nn < Wa ∧ AllLt Wa rest) (h2 : D1 < D2 ∧ D < D2 ∧ l' < D2 ∧ wa < D2 ∧ ra < D2 ∧ nk < D2 ∧ nn < D2 ∧ AllLt D2 rest) (h1 : D < D1 ∧ l' < D1 ∧ wa < D1 ∧ ra < D1 ∧ nk < D1 ∧ nn < D1 ∧ AllLt D1 rest)
    (hne : ra < wa ∧ nk < ra ∧ nn < nk) (hoff : OwnOff rest [wa, ra, nk, nn]) (ho : o'.data = .cell (some (.int k wt9))) (hdat : DatAll rest rv rows) (hwp : IntsAre wp st) (hys : IntsAre ys (kidsDown ns k))
    (hkb : ∀ j ∈ st ++ [k], 0 ≤ j ∧ j ≤ 4) (hsl : rows.length + (wt st + 2 ^ (4 - k).toNat) ≤ 16) (hrun : Run ns rows (st ++ [k]) R)
    (hk : m' (Str.ofString "waiting") = some (.ref Wa)) (hr : ∀ z, z ≠ Str.ofString "waiting" → stored.contains z = false → m' z = m₀ z) :
    KswEnd g L s (Dst.led ra nk nn nc) (fun c => [(Str.ofString "waiting", .ref c.wa)]) (Dst.Ok ra nk nn) stored m₀
      (fun c => c.rows.length + wt c.stk ≤ 16 ∧ (∀ k ∈ c.stk, 0 ≤ k ∧ k ≤ 4) ∧ Run ns c.rows c.stk R) (fun c => wt c.stk)
      ⟨rest, rv, rn, wa, wv, wn, kc, kv, st ++ [k], rows⟩ { s with heap := h, toks := tk } := by
  have hk04 := hkb k (by simp)
  have hwk := wt_kids ns hk04.1 hk04.2
  obtain ⟨b1, b2, b3, b4, b5, b6, b7, b8, b9⟩ := hW
  obtain ⟨c1, c2, c3, c4, c5, c6, c7, c8⟩ := h2
  obtain ⟨d1, d2, d3, d4, d5, d6, d7⟩ := h1
  refine ksw_end ⟨(D2, { cls := .type "tuple", data := .seq #[.str (agentS (ns.getD k.toNat 0)) t1, .ref D1, .int ((kidsDown ns k).length : Int) t2] }) :: (D1, { cls := .type "tuple", data := .seq #[.int (rows.length : Int) t3, .int (portI (ns.getD k.toNat 0)) t4] }) :: rest,
    rv ++ [.ref D2], rn + 1, Wa, wp ++ ys, 0, o', some (.int k wt9), st ++ kidsDown ns k, rows ++ [rowD ns rows.length k]⟩ F N ?_ ⟨ho, hwp.append hys, ?_, ?_, ?_⟩ ?_ ?_ ⟨?_, ?_, hrun.snoc_inv⟩ ?_
  · intro p hp
    simp only [Dst.led, List.mem_cons, List.push_toArray] at hp ⊢
    rcases hp with h | h | h | h | h | h | h <;> simp [h]
  · intro p hp b hb
    simp only [List.mem_cons, List.not_mem_nil, or_false] at hp hb
    rcases hp with rfl | rfl | hp
    · rcases hb with rfl | rfl | rfl | rfl
      · exact Nat.ne_of_lt b1
      · exact Nat.ne_of_gt c5
      · exact Nat.ne_of_gt c6
      · exact Nat.ne_of_gt c7
    · rcases hb with rfl | rfl | rfl | rfl
      · exact Nat.ne_of_lt b2
      · exact Nat.ne_of_gt d4
      · exact Nat.ne_of_gt d5
      · exact Nat.ne_of_gt d6
    · rcases hb with rfl | hb
      · exact Nat.ne_of_lt (kst_ltOf b9 p hp)
      · exact hoff p hp b (by simp; right; exact hb)
  · exact ⟨b6, hne.2⟩
  · refine DatAll.append (hdat.mono fun p hp => by simp [hp]) (DatAll.one ?_)
    refine DatIn.tuple (vs := [.str (agentS (ns.getD k.toNat 0)) t1, .ref D1, .int ((kidsDown ns k).length : Int) t2]) (n := 0) (by simp) (.cons (.str _ _) (.cons (DatIn.tuple (vs := [.int (rows.length : Int) t3, .int (portI (ns.getD k.toNat 0)) t4]) (n := 0) (by simp) (.cons (.int _ _) (.cons (.int _ _) .nil))) (.cons (.int _ _) .nil)))
  · intro p hp
    rw [List.mem_singleton.mp hp]
    exact hk
  · intro z hz hst
    exact hr z (hz _ (List.mem_singleton.mpr rfl)) hst
  · show (rows ++ [_]).length + wt (st ++ _) ≤ 16
    rw [wt_append, List.length_append, List.length_singleton]
    omega
  · intro j hj
    rcases List.mem_append.mp hj with hj | hj
    · exact hkb j (by simp [hj])
    · have := mem_kids hj; omega
  · show wt (st ++ _) < wt (st ++ _)
    rw [wt_append, wt_append, wt_one]
    omega
theorem drawn_con (w : World) (mean : ExcName → Option Value) (mg mb : Str → Option Value) (l : Addr) (vs : List Value) (ns : List Int) (hI : IntsAre vs ns) (hlen : ns.length = 5) (R : List Dat) (hR : Run ns [] [0] R) : Con w mean mg mb 10 147 [.ref l] (fun h => h.IsList l vs.toArray) (fun _ h' r => ∃ as, Reads h' r (.list (kqdPs R)) as) := by
  unfold Con
  k_fill
  intro dp un gd cn cs a ccd cl outer A₀ base h₀ L m s Q E B F X T hk hd hu hpre hret
  refine wpAny_call ?_
  k_dflt (refine' enter_wholeC (binds := [(Str.ofString "numbers", .ref l)]) ?k1 ?k2 ?k3 ?k5 ?kA ?kF ?kK ?k6 ?k7 ?k8 ?k9 ?kB ?kD ?_ ?c2 ?c3 ?c4; (case kA => exact rfl); (case kF => exact rfl); (case kK => assumption); (case k1 => k_asm); (case k2 => k_asm); (case k3 => k_asm);  (case k5 => k_asm); (case k6 => k_is); (case k7 => k_is); (case k8 => ktr_room); (case k9 => exact rfl); (case kB => exact rfl); (case kD => decide +kernel); (case c2 => exact rfl); (case c3 => exact rfl); (case c4 => exact rfl))
  intro g' L' h' tk' cells' hg' F' N' Y' B' X' T'
  k_cells Y'
  rename_i kc nc hkc hnc
  dsimp only
  clear B F X T
  have hL : g'.IsList l vs.toArray := hg' ▸ hpre
  try k_fold
  k_with_none
  k_with "exec While Compare cons nil" => refine stop_here ?_
  k_steps
  unfold StopAt
  rename Fr _ _ _ _ => lF'
  rename News _ _ _ _ => lN'
  with_unfolding_all (refine' ksw_while (Dst.led ?ra (L' + 1 + 1) (L' + 1) nc) (fun c => [(Str.ofString "waiting", .ref c.wa)]) (Dst.Ok ?ra (L' + 1 + 1) (L' + 1)) [Str.ofString "below"] (fun c => c.rows.length + wt c.stk ≤ 16 ∧ (∀ k ∈ c.stk, 0 ≤ k ∧ k ≤ 4) ∧ Run ns c.rows c.stk R) (fun c => wt c.stk) ⟨[], [], 0, _, [.int 0 _], 0, kc, none, [0], []⟩ lF' lN' ?kf ?kk ?kp ?_)
  (case kf => exact ⟨hkc, .cons _ _ .nil, fun _ h => (nomatch h), by dsimp only; omega, .nil⟩)
  (case kk => kst_all)
  (case kp => exact ⟨by dsimp only; decide, by simp, hR⟩)
  clear lF' lN'
  intro c u h9 tk9 hok hp F9 N9
  obtain ⟨rest, rv, rn, wa, wv, wn, kc9, kv, stk, rows⟩ := c
  obtain ⟨hkd, hints, hoff, hne, hdat⟩ := hok
  obtain ⟨hsl, hkb, hrun⟩ := hp
  dsimp only [Dst.led] at *
  k_with_none
  rcases nil_or_snoc stk with rfl | ⟨st, k, rfl⟩
  · try k_fold
    k_with "ite" => first | refine if_yes (by simp only [decide_eq_true_eq, decide_eq_false_iff_not]) ?_ | refine if_no rfl ?_
    k_steps
    dsimp only
    repeat (k_unfold; try dsimp only)
    obtain rfl := hrun.nil_inv
    exact con_ret (post := fun _ h' r => ∃ as, Reads h' r (.list (kqdPs R)) as) hret hg' (by assumption) (drawn_ret (by assumption) (.tail _ (.tail _ (.head _))) (fun p hp => .tail _ (.tail _ (.tail _ (.tail _ (.tail _ hp))))) hdat (hR.ok (fun _ h => (nomatch h))))
  · obtain ⟨wp, wt, rfl, hints'⟩ : ∃ wp t, wv = wp ++ [.int k t] ∧ IntsAre wp st := ints_snoc hints
    have hk04 := hkb k (by simp)
    have hwk := wt_kids ns hk04.1 hk04.2
    have hkl := kids_le ns hk04.1 hk04.2
    rw [wt_append, wt_one] at hsl
    have hwl : wp.length ≤ 16 := by have h1 := hints'.length; have h2 := wt_length st; omega
    have hrl : rv.length = rows.length := hdat.length
    have hrl2 : rv.length ≤ 16 := by omega
    try k_fold
    k_with "call builtin:list.pop" => (k_dflt (refine' kl_pop (p := wp) (y := .int k wt) ?F ?N ?l ?U ?z ?_; (case F => k_asm); (case N => k_asm); (case l => exact kpa_last _ _); (case U => k_upd); (case z => (simp only [List.size_toArray, List.length_append, List.length_cons, List.length_nil]; rw [PySem.sizeLine_eq]; omega))); intro h' F' N'; try dsimp only)
    k_with "ite" => first | refine if_no (by simp only [List.append_eq_nil_iff, List.cons_ne_self, and_false, decide_false]) ?_ | refine if_yes rfl ?_
    k_with "exec Assign cons ListComp" => refine stop_here ?_
    k_steps
    unfold StopAt
    rename Fr _ _ _ _ => kF9
    refine' comp_range kF9 (pz := fun j => Int.fmod (ns.getD j.toNat 0) j == k) (d := fun a => .int a) ?hsw ?hL ?hh ?hclos ?hcell ?hkind ?hnames ?hx ?hy ?hp ?h ?hs
    (case hsw => with_unfolding_all rfl)
    (case hL => with_unfolding_all rfl)
    (case hh => with_unfolding_all rfl)
    (case hclos => with_unfolding_all rfl)
    (case hcell => decide)
    (case hkind => with_unfolding_all rfl)
    (case hnames => decide)
    (case hx => with_unfolding_all rfl)
    (case hy => with_unfolding_all rfl)
    (case hp => with_unfolding_all rfl)
    (case hs => intro _; with_unfolding_all rfl)
    case h =>
      k_steps
      unfold StopAt
      rename IsRange _ _ _ _ _ _ _ _ => hR9
      rename Fr _ _ _ _ => lF'
      rename News _ _ _ _ => lN'
      have hsz : Builtin.Range.rangeSize 4 k (-1) = (((4 - k).toNat : Nat) : Int) := rangeSize_downNat 4 k
      refine ⟨_, _, 4, k, -1, _, _, _, (4 - k).toNat, rfl, hR9, small_down (by decide) (by decide) (by omega) (by omega), hsz, by rw [PySem.sizeLine_eq]; omega, lF', lN', ?test, ?elt, ?fin⟩
      case test =>
        intro C j v s₂ m₂ E' hC hj hv hns hm hk
        obtain ⟨jt, rfl⟩ := hv
        have hj04 := mem_down hj
        k_steps
        all_goals exact keeps_tok _ _
      case elt =>
        intro C j v s₂ m₂ E' hC hj hv hpz hns hm hk
        obtain ⟨jt, rfl⟩ := hv
        k_steps
        · exact Carried.int _ _
        · exact keeps_tok _ _
      case fin =>
        intro D ys h8 tk8 F8 N8 hD hlD hpD hys
        clear lF' lN' hR9 hlD
        have hys' : IntsAre ys (kidsDown ns k) := IntsAre.ofCarried hys
        have hyl := hys'.length
        obtain ⟨n8, N8', hDne⟩ := news_plain F8 N8 hD hpD
        simp only [List.forall_mem_cons] at hDne
        obtain ⟨hDn1, hDn2, hDn3, hDn4, hDn5, hDn6⟩ := hDne
        replace hDn1 := neN hDn1
        replace hDn2 := neN hDn2
        replace hDn3 := neN hDn3
        replace hDn4 := neN hDn4
        replace hDn5 := neN hDn5
        have hMk := kstMark
        clear N8 hpD hys
        try k_fold
        k_with "call ref" => (k_dflt (refine' con_use (agent_con _ _ _ _ _ _) ?k1 ?k2 ?k3 ?k4 ?k5 ?kK ?kd ?ku trivial ?_; (case k1 => k_asm); (case k2 => k_asm); (case k3 => k_asm); (case k4 => k_asm); (case k5 => k_asm); (case kK => exact rfl); (case kd => ktr_room); (case ku => ktr_units)); intro r9 h9 tk9 F9 N9 st9 hp9; clear st9; (obtain ⟨t9, rfl⟩ := hp9); (try dsimp only); (try k_fold))
        k_with "call ref" => (k_dflt (refine' con_use (port_con _ _ _ _ _ _) ?k1 ?k2 ?k3 ?k4 ?k5 ?kK ?kd ?ku trivial ?_; (case k1 => k_asm); (case k2 => k_asm); (case k3 => k_asm); (case k4 => k_asm); (case k5 => k_asm); (case kK => exact rfl); (case kd => ktr_room); (case ku => ktr_units)); intro r9 h9 tk9 F9 N9 st9 hp9; clear st9; (obtain ⟨t9, rfl⟩ := hp9); (try dsimp only); (try k_fold))
        k_with "binaryOp Add ref ref" => refine stop_here ?_
        k_steps
        unfold StopAt
        k_dflt (refine' cat_K ?cF ?cN ?cA ?cB ?cZ ?_; (case cF => k_asm); (case cN => k_asm); (case cA => k_mem); (case cB => k_mem); (case cZ => (rw [PySem.sizeLine_eq]; omega)))
        intro D' h' F' N' l1
        k_lt l1
        k_steps
        exact drawn_end (by assumption) (by assumption) (by assumption) (by assumption) (by assumption) hne hoff (by assumption) hdat hints' hys' hkb hsl hrun rfl (by intro z h1 h2; simp only [List.contains_cons, List.contains_nil, Bool.or_false, beq_eq_false_iff_ne, ne_eq] at h2; simp [h1, h2, kstB])
end
end Mine
namespace Mine
section
local macro_rules | `(tactic| tb_start) => `(tactic| ((case kA => exact rfl); (case kF => exact rfl); (case kK => assumption); (case k1 => k_asm); (case k2 => k_asm); (case k3 => k_asm);  (case k5 => k_asm); (case k6 => k_is); (case k7 => k_is); (case k8 => ktr_room); (case k9 => exact BindsTo.of_eq rfl); (case c5 => decide); (case kB => exact locs rfl); (case c2 => exact rfl); (case c3 => exact rfl); (case c4 => exact rfl)))
local macro_rules | `(tactic| k_room) => `(tactic| ktr_room)
local macro_rules | `(tactic| k_units) => `(tactic| ktr_units)
section
variable {prog : Program} {w : World} {A A₀ : Around} {s : Shared} {K : Frag} {L : Addr} {h₀ base : Heap} {m mg mb : Str → Option Value} {p : Program} {loose : List Str} {mean : ExcName → Option Value}
theorem enter_part {news : List (Addr × Obj)} {env : Env} {outer : List Env} {R : Result → Shared → Prop} {name qual : Str} {params : Arguments} {body : List Stmt} {scope : Scope} {dV kV doc pm cdv ct oc : Value} {an od : Option Addr} {osl : Array (Option Value)} {f : Addr} {args : Args} {binds : List (Str × Value)}
    (N : News h₀ L s.heap news) (B : Below A₀ base outer h₀) (F : Fr h₀ L s.heap m) (X₀ : K.In h₀) (T : Top p loose mean mg mb h₀) (hA : A.frames = some (env :: outer)) (hf : env.frame = some L) (hke : env.scope.kind = .function)
    (ho : K.lookup f = some ⟨oc, od, .func (fnOf name qual params body scope dV kV doc pm an cdv ct), osl⟩) (hcd : codeIn K cdv qual = true) (hroom : A.depth < recursionLimit)
    (hbind : BindsTo s (fnOf name qual params body scope dV kV doc pm an cdv ct) args binds) (hloc : ∀ y ∈ binds, scope.names.lookup y.1 = some .local)
    (h : ∀ g L' h₁, (∀ b o, s.heap.get? b = some o → b ∉ news.map (·.1) → g.get? b = some o) → Fr g L' h₁ (fun y => binds.reverse.lookup y) → News g L' h₁ news → Below A base (env :: outer) g → K.In g → Top p loose mean mg mb g →
      wpAny (model prog w) (A.deeper (envOf qual scope L' f cdv)) (execs body (envOf qual scope L' f cdv))
        (fun fl s' => R (.ok (.ret (match fl with | .ret v => v | _ => .none))) s')
        (fun e s' => wpAny (model prog w) (A.deeper (envOf qual scope L' f cdv)) (leaving (envOf qual scope L' f cdv) e) (fun _ s'' => R (.error e) s'') (fun e' s'' => R (.error e') s'') s')
        { s with heap := h₁, toks := s.toks + binds.length })
    (hco : scope.isCoroutine = false) (hgen : scope.isGenerator = false) (hk : scope.kind = .function)
    (hcell : ∀ x ∈ scope.names, x.2 ≠ .cell) : codeAny (model prog w) A (.call (.ref f) args) R s := by
  obtain ⟨_, BG, st, _⟩ := groundX (R := R) B F N hA hf hke
  refine codeAny_call_def (fd := fnOf name qual params body scope dV kV doc pm an cdv ct) (body := body) (binds := binds) hroom ((X₀.keeps F.keep) _ _ ho) rfl (T.nolimit.keeps F.keep) (codeRec_of (X₀.keeps F.keep) hcd) rfl hbind hcell hloc (fun h₁ hns hk₁ => ?_) hco hgen hk
  refine h (hideAll s.heap (news.map (·.1))) s.heap.objs.size h₁ (fun b o e hb => hideAll_get _ e hb) ⟨hns, fun b o e => hk₁ b o (of_hideAll _ e), Nat.le_of_eq (hideAll_size _ _)⟩ (fun q hq => ⟨hk₁ _ _ (N q hq).1, Nat.ne_of_lt (Heap.lt_size (N q hq).1), hideAll_none _ (List.mem_map_of_mem hq)⟩) BG (X₀.keeps fun b o e => st b o e) (T.keeps fun b o e => st b o e)
end
def ConN (w : World) (mean : ExcName → Option Value) (mg mb : Str → Option Value) (D : Nat) (f : Addr) (vs : List Value) (news : List (Addr × Obj)) (post : Value → Prop) : Prop :=
  ∀ (dp un : Nat) (gd : Option (List Code)) (cn : Str) (cs : Scope) (a : Addr) (ccd : Value) (cl : List (Str × Addr)) (outer : List Env) (A₀ : Around) (base h₀ : Heap) (L : Addr) (m : Str → Option Value) (s : Shared) (Q E : Value → Shared → Prop),
    Below A₀ base outer h₀ → Fr h₀ L s.heap m → (hd.heap_39 w.params).In h₀ → Top hd.view_39 (looseW hd.view_39 []) mean mg mb h₀ → cs.kind = .function → dp + D < recursionLimit → un + 8 * D < cLine → News h₀ L s.heap news →
    (∀ r h' tk', s.heap.StaysIn h' → post r → Q r { s with heap := h', toks := tk' }) →
    wpAny (model PySem.Challenge.rw_ny0094_01.row.prog w) (ktrTop dp un gd cn cs L a ccd cl outer) (call (.ref f) vs) Q E s
theorem conN_ret {s : Shared} {g h' : Heap} {L' : Addr} {m' : Str → Option Value} {Q : Value → Shared → Prop} {post : Value → Prop} {r : Value} {tk' : Nat} {news all : List (Addr × Obj)}
    (hret : ∀ r h' tk', s.heap.StaysIn h' → post r → Q r { s with heap := h', toks := tk' }) (hs : ∀ p ∈ news, s.heap.get? p.1 = some p.2) (hg : ∀ b o, s.heap.get? b = some o → b ∉ news.map (·.1) → g.get? b = some o) (F : Fr g L' h' m') (N : News g L' h' all) (hsub : ∀ p ∈ news, p ∈ all) (hp : post r) : Q r { s with heap := h', toks := tk' } := by
  refine hret _ _ _ (fun b o e => ?_) hp
  by_cases hb : b ∈ news.map (·.1)
  · obtain ⟨q, hq, rfl⟩ := List.mem_map.mp hb
    have := hs q hq
    rw [e] at this
    cases this
    exact (N q (hsub q hq)).1
  · exact F.keep _ _ (hg b o e hb)
/-- a record's objects -/
def recObjs (w : World) (x dx ua rl : Addr) (tks : Nat × Nat × Nat × Nat) (ag dl : Str) (tag tdl : Tok) (rv : List Value) (rn : Nat) : List (Addr × Obj) :=
  [(rl, W.listOf rv.toArray rn), (ua, W.listOf #[.str ag tag] 1), (x, instObj 110 dx),
   (dx, dictOf [{ hash := PyData.keyHash w.params (Str.ofString "useragents"), key := .str (Str.ofString "useragents") tks.1, val := .ref ua },
      { hash := PyData.keyHash w.params (Str.ofString "rulelines"), key := .str (Str.ofString "rulelines") tks.2.1, val := .ref rl },
      { hash := PyData.keyHash w.params (Str.ofString "delay"), key := .str (Str.ofString "delay") tks.2.2.1, val := .str dl tdl },
      { hash := PyData.keyHash w.params (Str.ofString "req_rate"), key := .str (Str.ofString "req_rate") tks.2.2.2, val := .none }] 4)]
theorem strs_values : ∀ l : List (Str × Tok), StrsAre (strValues l) (l.map (·.1))
  | [] => .nil
  | (x, t) :: r => .cons x t (strs_values r)
theorem sum_le {B : Nat} : ∀ {l : List (Str × Tok)}, (∀ y ∈ l, y.1.length ≤ B) → ((l.map (·.1)).map (·.length)).sum ≤ l.length * B
  | [], _ => Nat.zero_le _
  | y :: r, h => by
    have h1 := h y (.head _)
    have h2 := sum_le (l := r) fun z hz => h z (.tail _ hz)
    simp only [List.map_cons, List.sum_cons, List.length_cons, Nat.add_mul, Nat.one_mul]
    omega
section
variable {prog : Program} {w : World} {A : Around} {E : Value → Shared → Prop} {s : Shared} {h₀ : Heap} {L : Addr} {news : List (Addr × Obj)}
theorem join_K {D : Addr} {its : Array Value} {n : Nat} {x : Str} {t : Tok} {ys : List Str} {Q : Value → Shared → Prop} (N : News h₀ L s.heap news) (hm : (D, W.listOf its n) ∈ news) (hi : StrsAre its.toList ys) (hs : x.length ≤ 64) (hz : (ys.map (·.length)).sum + ys.length * 64 ≤ 16777216)
    (h : ∀ t' k, Q (.str (Txt.join x ys) t') { s with toks := k }) : wpAny (model prog w) A (call (.builtin "str.join") [.str x t, .ref D]) Q E s :=
  join_listC (isList_of_news N hm) hi hs hz h
end
theorem str_con (w : World) (mean : ExcName → Option Value) (mg mb : Str → Option Value) (x dx ua rl : Nat) (tks : Nat × Nat × Nat × Nat) (ag dl : Str) (tag tdl : Tok) (rn : Nat) (rest : List (Str × Tok)) (hag : ag.length ≤ 4) (hdl : dl.length ≤ 40) (hrl : rest.length ≤ 4) (hrs : ∀ y ∈ rest, y.1.length ≤ 40000)
    (hord : dx < x ∧ x < ua ∧ ua < rl) :
    ConN w mean mg mb 5 93 [.ref x] (recObjs w x dx ua rl tks ag dl tag tdl (strValues rest) rn) (fun r => ∃ t', r = .str (recText ag dl (rest.map (·.1))) t') := by
  unfold ConN
  k_fill
  intro dp un gd cn cs a ccd cl outer A₀ base h₀ L m s Q E B F X T hk hd hu N hret
  refine wpAny_call ?_
  k_dflt (refine' enter_part (binds := [(Str.ofString "self", .ref x)]) N ?k1 ?k2 ?k3 ?k5 ?kA ?kF ?kK ?k6 ?k7 ?k8 ?k9 ?kB ?_ ?c2 ?c3 ?c4 ?c5)
  tb_start
  intro g' L' h' hg' F' N' B' X' T'
  have hsN := fun p hp => (N p hp).1
  clear B F X T N
  obtain ⟨k1, k2, k3, k4⟩ := tks
  try dsimp only [recObjs] at *
  have hMk := kstMark
  rcases rest with _ | ⟨y, rest⟩
  · try k_fold
    k_with_none
    k_steps
    refine join_K (by assumption) (.head _) (ys := [Str.ofString "User-agent: " ++ ag, Str.ofString "Crawl-delay: " ++ dl, Str.ofString "Allow:"]) (.cons _ _ (.cons _ _ (.cons _ _ .nil))) (by decide +kernel) ?_ ?_
    · simp only [List.map_cons, List.map_nil, List.sum_cons, List.sum_nil, Str.length_append, List.length_cons, List.length_nil]
      have e1 : (Str.ofString "User-agent: ").length = 12 := by decide +kernel
      have e2 : (Str.ofString "Crawl-delay: ").length = 13 := by decide +kernel
      have e3 : (Str.ofString "Allow:").length = 6 := by decide +kernel
      omega
    · intro t' k'
      dsimp only
      exact conN_ret (s := s) (post := fun r => ∃ t', r = .str (recText ag dl []) t') hret hsN hg' (by assumption) (by assumption) (fun p hp => .tail _ hp) ⟨_, rfl⟩
  · generalize hre : y :: rest = rest' at *
    have hne : (!(strValues rest').isEmpty) = true := by rw [← hre]; rfl
    have hsl : (strValues rest').length < 2 ^ 62 := by rw [strValues, List.length_map]; omega
    try k_fold
    k_with_none
    k_with "truthy ref" => (k_dflt (refine' kgr_truthy (vs := strValues rest') ?tN ?tM ?tC ?tD ?tZ ?_; (case tN => k_asm); (case tM => k_mem); (case tC => exact rfl); (case tD => exact rfl); (case tZ => exact hsl)))
    k_with "ite" => refine if_yes hne ?_
    k_with "call type:map" => (k_dflt (refine' map_K ?mF ?mN ?mL ?_; (case mF => k_asm); (case mN => k_asm); (case mL => k_mem)); intro z T I h' F' N' l1 l2 l3)
    k_with "call builtin:list.extend" => (refine stop_here ?_)
    k_steps
    unfold StopAt
    k_dflt (refine' extend_K rfl ?eF ?eN ?eL ?eT ?e1 ?e2 ?eS ?eZ ?_)
    (case eF => k_asm)
    (case eN => k_asm)
    (case eL => k_mem)
    (case eT => assumption)
    (case e1 => assumption)
    (case e2 => assumption)
    (case eS => k_all)
    (case eZ => (simp only [List.size_toArray, List.length_cons, List.length_nil]; omega))
    intro h8 c8 F8 N8
    dsimp only
    try k_fold
    k_with "call builtin:str.join" => (refine stop_here ?_)
    k_steps
    unfold StopAt
    refine join_K N8 (.head _) (ys := (Str.ofString "User-agent: " ++ ag) :: (Str.ofString "Crawl-delay: " ++ dl) :: rest'.map (·.1)) (by rw [Array.toList_append]; exact .cons _ _ (.cons _ _ (strs_values rest'))) (by decide +kernel) ?_ ?_
    · simp only [List.map_cons, List.sum_cons, Str.length_append, List.length_cons, List.length_map]
      have e1 : (Str.ofString "User-agent: ").length = 12 := by decide +kernel
      have e2 : (Str.ofString "Crawl-delay: ").length = 13 := by decide +kernel
      have e3 := sum_le hrs
      have e4 : rest'.length * 40000 ≤ 4 * 40000 := Nat.mul_le_mul_right _ hrl
      omega
    · intro t' k'
      have e : recText ag dl (rest'.map (·.1)) = Txt.join (Str.ofString "\n") ((Str.ofString "User-agent: " ++ ag) :: (Str.ofString "Crawl-delay: " ++ dl) :: rest'.map (·.1)) := by rw [← hre]; rfl
      dsimp only
      exact conN_ret (s := s) (post := fun r => ∃ t', r = .str (recText ag dl (rest'.map (·.1))) t') hret hsN hg' (by assumption) (by assumption) (fun p hp => .tail _ hp) ⟨_, by rw [e]⟩
end
end Mine
namespace Mine
section
local macro_rules | `(tactic| tb_start) => `(tactic| ((case kA => exact rfl); (case kF => exact rfl); (case kK => assumption); (case k1 => k_asm); (case k2 => k_asm); (case k3 => k_asm);  (case k5 => k_asm); (case k6 => k_is); (case k7 => k_is); (case k8 => ktr_room); (case k9 => exact BindsTo.of_eq rfl); (case c5 => decide); (case kB => exact locs rfl); (case c2 => exact rfl); (case c3 => exact rfl); (case c4 => exact rfl)))
local macro_rules | `(tactic| k_room) => `(tactic| ktr_room)
local macro_rules | `(tactic| k_units) => `(tactic| ktr_units)
local macro_rules | `(tactic| walk_at "call type:range") => `(tactic| ((with_reducible show wpAny _ _ (call _ [_, _]) _ _ _); (rename Fr _ _ _ _ => F'); (rename News _ _ _ _ => N'); (with_unfolding_all refine range2_rows F' N' ?_; intro _ _ _ _ _ _ _ _ _)))
theorem range_n {k : Int} (h : k ≤ 4) : Builtin.Range.rangeSize (k + 1) 5 1 = (((4 - k).toNat : Nat) : Int) := by
  unfold Builtin.Range.rangeSize
  simp only [show ((1 : Int) > 0) by decide, if_true, Int.ediv_one]
  split <;> omega
structure Wst where
  tv : List Value
  tn : Nat
  ts : List Str
theorem conN_use {w : World} {mean : ExcName → Option Value} {mg mb : Str → Option Value} {D : Nat} {f : Addr} {vs : List Value} {small : List (Addr × Obj)} {post : Value → Prop}
    {dp un : Nat} {gd : Option (List Code)} {cn : Str} {cs : Scope} {a : Addr} {ccd : Value} {cl : List (Str × Addr)} {outer : List Env} {A₀ : Around} {base h₀ : Heap} {L : Addr} {m : Str → Option Value} {s : Shared} {Q E : Value → Shared → Prop} {news : List (Addr × Obj)}
    (N : News h₀ L s.heap news) (hsub : ∀ p ∈ small, p ∈ news) (C : ConN w mean mg mb D f vs small post)
    (B : Below A₀ base outer h₀) (F : Fr h₀ L s.heap m) (X : (hd.heap_39 w.params).In h₀) (T : Top hd.view_39 (looseW hd.view_39 []) mean mg mb h₀) (hk : cs.kind = .function) (hd : dp + D < recursionLimit) (hu : un + 8 * D < cLine)
    (ret : ∀ r h' tk', Fr h₀ L h' m → News h₀ L h' news → post r → Q r { s with heap := h', toks := tk' }) :
    wpAny (model PySem.Challenge.rw_ny0094_01.row.prog w) (ktrTop dp un gd cn cs L a ccd cl outer) (call (.ref f) vs) Q E s :=
  C _ _ _ _ _ _ _ _ _ _ _ _ _ _ _ _ _ B F X T hk hd hu (fun p hp => N p (hsub p hp)) fun r h' tk' k q => ret r h' tk' (stays_fr F k) (stays_news N k) q
theorem rec_sub {w : World} {x dx ua rl : Addr} {k1 k2 k3 k4 : Nat} {ag dl : Str} {tag tdl : Tok} {rv : List Value} {rn : Nat} {news : List (Addr × Obj)}
    (h1 : (rl, W.listOf rv.toArray rn) ∈ news) (h2 : (ua, W.listOf #[.str ag tag] 1) ∈ news) (h3 : (x, instObj 110 dx) ∈ news)
    (h4 : (dx, dictOf [{ hash := PyData.keyHash w.params (Str.ofString "useragents"), key := .str (Str.ofString "useragents") k1, val := .ref ua },
      { hash := PyData.keyHash w.params (Str.ofString "rulelines"), key := .str (Str.ofString "rulelines") k2, val := .ref rl },
      { hash := PyData.keyHash w.params (Str.ofString "delay"), key := .str (Str.ofString "delay") k3, val := .str dl tdl },
      { hash := PyData.keyHash w.params (Str.ofString "req_rate"), key := .str (Str.ofString "req_rate") k4, val := .none }] 4) ∈ news) :
    ∀ p ∈ recObjs w x dx ua rl (k1, k2, k3, k4) ag dl tag tdl rv rn, p ∈ news := by
  intro p hp
  simp only [recObjs, List.mem_cons, List.not_mem_nil, or_false] at hp
  rcases hp with rfl | rfl | rfl | rfl <;> assumption
section
variable {prog : Program} {w : World} {A : Around} {E : Value → Shared → Prop} {s : Shared} {h₀ : Heap} {L D : Addr} {m : Str → Option Value} {news news' : List (Addr × Obj)} {vs : List Value} {n : Nat} {k : Int} {t : Tok}
theorem set_K {v : Value} {Q : Unit → Shared → Prop} (F : Fr h₀ L s.heap m) (N : News h₀ L s.heap news) (U : Upd D (W.listOf vs.toArray n) (W.listOf (vs.set k.toNat v).toArray n) news news') (h0 : 0 ≤ k) (h1 : k < vs.length) (hfit : k < 2 ^ 63)
    (h : ∀ h', Fr h₀ L h' m → News h₀ L h' news' → Q () { s with heap := h' }) : wpAny (model prog w) A (setItem (.ref D) (.int k t) v) Q E s := by
  obtain ⟨pre, post, rfl, rfl, a, b⟩ := U.split
  have z := N (D, W.listOf vs.toArray n) (List.mem_append.mpr (.inr (.head _)))
  refine ki_setAt z.1 h0 hfit (by rw [List.size_toArray]; exact h1) (h _ (F.change (Heap.SameBut.update ..) z.2.1 z.2.2) (ki_turn _ N a b ?_ ?_))
  · show vs.toArray.setIfInBounds k.toNat v = (vs.set k.toNat v).toArray
    apply Array.toList_inj.mp
    simp
  · simp
end
theorem led_sub {a b c d e : Addr × Obj} {own own2 : List (Addr × Obj)} : ∀ p ∈ a :: b :: c :: d :: e :: own, p ∈ a :: b :: c :: d :: e :: (own ++ own2) := by
  intro p hp
  simp only [List.mem_cons, List.mem_append] at hp ⊢
  rcases hp with h | h | h | h | h | h <;> simp [h]
theorem own_sub {a b c d e : Addr × Obj} {own own2 : List (Addr × Obj)} : ∀ p ∈ own2, p ∈ a :: b :: c :: d :: e :: (own ++ own2) := by
  intro p hp
  simp [hp]
theorem own_sub1 {a b c d e : Addr × Obj} {own : List (Addr × Obj)} : ∀ p ∈ own, p ∈ a :: b :: c :: d :: e :: own := by
  intro p hp
  simp [hp]
theorem led_sub1 {a b c d e : Addr × Obj} {own : List (Addr × Obj)} : ∀ p ∈ [e], p ∈ a :: b :: c :: d :: e :: own := by
  intro p hp
  rw [List.mem_singleton.mp hp]
  simp
theorem rules_yes {ns : List Int} {ts rs : List Str} {k j : Int} {pre : List Int} (h : rs = rulesOf ns ts k pre) (hj : Int.fmod (ns.getD j.toNat 0) j = k) : rs ++ [rule (ts.getD j.toNat Str.empty)] = rulesOf ns ts k (pre ++ [j]) := by
  rw [h, rulesOf, rulesOf, List.filter_append, List.map_append, List.filter_cons_of_pos (by simpa using hj)]
  rfl
theorem rules_no {ns : List Int} {ts rs : List Str} {k j : Int} {pre : List Int} (h : rs = rulesOf ns ts k pre) (hj : Int.fmod (ns.getD j.toNat 0) j ≠ k) : rs = rulesOf ns ts k (pre ++ [j]) := by
  rw [h, rulesOf, rulesOf, List.filter_append, List.map_append, List.filter_cons_of_neg (by simpa using hj)]
  simp
theorem strs_set {x : Str} {u : Tok} : ∀ {vs : List Value} {xs : List Str}, StrsAre vs xs → ∀ j : Nat, StrsAre (vs.set j (.str x u)) (xs.set j x)
  | _, _, .nil, _ => .nil
  | _, _, .cons _ _ h, 0 => .cons x u h
  | _, _, .cons i t h, j + 1 => .cons i t (strs_set h j)
theorem tx_next {ns : List Int} {ts rs : List Str} {k : Int} {pre : List Int} (hp : ts = tx ns pre.length) (hk : k = 4 - (pre.length : Int)) (hl : pre.length < 5) (hr : rs = rulesOf ns ts k (rangeKs (k + 1) (4 - k).toNat)) :
    ts.set k.toNat (recText (agentS (ns.getD k.toNat 0)) (delayS (portI (ns.getD k.toNat 0))) rs) = tx ns (pre ++ [k]).length := by
  rw [List.length_append, List.length_singleton, tx, ← hp]
  have e : k.toNat = 4 - pre.length := by omega
  have e2 : ((4 - pre.length : Nat) : Int) = k := by omega
  rw [e2, hr, ← e]
  rfl
theorem written_con (w : World) (mean : ExcName → Option Value) (mg mb : Str → Option Value) (l : Addr) (vs : List Value) (ns : List Int) (hI : IntsAre vs ns) (hlen : ns.length = 5) : Con w mean mg mb 10 142 [.ref l] (fun h => h.IsList l vs.toArray) (fun _ _ r => ∃ t', r = .str ((tx ns 5).getD 0 Str.empty) t') := by
  unfold Con
  k_fill
  intro dp un gd cn cs a ccd cl outer A₀ base h₀ L m s Q E B F X T hk hd hu hpre hret
  refine wpAny_call ?_
  k_dflt (refine' enter_whole (binds := [(Str.ofString "numbers", .ref l)]) ?k1 ?k2 ?k3 ?k5 ?kA ?kF ?kK ?k6 ?k7 ?k8 ?k9 ?kB ?_ ?c2 ?c3 ?c4 ?c5)
  tb_start
  intro g' L' h' hg' F' N' B' X' T'
  try dsimp only
  clear B F X T
  have hL : g'.IsList l vs.toArray := hg' ▸ hpre
  try k_fold
  k_with_none
  k_with "pyIter ref" => refine stop_here ?_
  k_steps
  unfold StopAt
  rename IsRange _ _ _ _ _ _ _ _ => hR9
  rename Fr _ _ _ _ => lF'
  rename News _ _ _ _ => lN'
  with_unfolding_all (refine' kst_rangeD (n := 5) (fun c : Wst => [(?ta, W.listOf c.tv.toArray c.tn)]) (fun _ => []) (fun c => StrsAre c.tv c.ts) [Str.ofString "record", Str.ofString "j"] (fun pre c => c.ts = tx ns pre.length) ⟨_, _, [Str.ofString "", Str.ofString "", Str.ofString "", Str.ofString "", Str.ofString ""]⟩ rfl hR9 ?hsm ?hnn lF' lN' ?hf ?hk ?hp ?turn ?done)
  case hsm => decide
  case hnn => decide
  case hf => exact .cons _ _ (.cons _ _ (.cons _ _ (.cons _ _ (.cons _ _ .nil))))
  case hk => exact fun _ h => nomatch h
  case hp => rfl
  case done =>
    clear lF' lN' hR9
    intro c u h9 tk9 hts hp F9 N9
    obtain ⟨tv, tn, ts⟩ := c
    dsimp only at *
    have htl : ts.length = 5 := by rw [hp]; exact tx_length ns _
    k_with_none
    try k_fold
    k_steps
    dsimp only
    repeat (k_unfold; try dsimp only)
    exact con_ret (post := fun _ _ r => ∃ t', r = .str ((tx ns 5).getD 0 Str.empty) t') hret hg' (by assumption) ⟨_, by rw [hp]; rfl⟩
  case turn =>
    clear lF' lN' hR9
    intro c pre k t u h9 tk9 own hkk hpre9 hoff hts hp F9 N9
    obtain ⟨tv, tn, ts⟩ := c
    dsimp only [List.map, List.cons_append, List.nil_append] at *
    have hk04 : 0 ≤ k ∧ k ≤ 4 := by omega
    have htl : ts.length = 5 := by rw [hp]; exact tx_length ns _
    have htx : ∀ j, (ts.getD j Str.empty).length ≤ 16384 := by rw [hp]; exact tx_le ns (by omega)
    have hvl : tv.length = 5 := by rw [hts.length]; exact htl
    have hMk := kstMark
    try k_fold
    k_with_none
    k_with "pyIter ref" => refine stop_here ?_
    k_with "call ref" => (k_dflt (refine' con_use (agent_con _ _ _ _ _ _) ?k1 ?k2 ?k3 ?k4 ?k5 ?kK ?kd ?ku trivial ?_; (case k1 => k_asm); (case k2 => k_asm); (case k3 => k_asm); (case k4 => k_asm); (case k5 => k_asm); (case kK => exact rfl); (case kd => ktr_room); (case ku => ktr_units)); intro r9 h9 tk9 F9 N9 st9 hp9; clear st9; (obtain ⟨t9, rfl⟩ := hp9); (try dsimp only); (try k_fold))
    k_with "call ref" => (k_dflt (refine' con_use (port_con _ _ _ _ _ _) ?k1 ?k2 ?k3 ?k4 ?k5 ?kK ?kd ?ku trivial ?_; (case k1 => k_asm); (case k2 => k_asm); (case k3 => k_asm); (case k4 => k_asm); (case k5 => k_asm); (case kK => exact rfl); (case kd => ktr_room); (case ku => ktr_units)); intro r9 h9 tk9 F9 N9 st9 hp9; clear st9; (obtain ⟨t9, rfl⟩ := hp9); (have hpb := port_lt (ns.getD k.toNat 0)); (try dsimp only); (try k_fold))
    k_steps
    unfold StopAt
    rename IsRange _ _ _ _ _ _ _ _ => hR9
    rename Fr _ _ _ _ => lF'
    rename News _ _ _ _ => lN'
    simp only [List.push_toArray, List.nil_append] at lN'
    with_unfolding_all (refine' kst_range (n := (4 - k).toNat) (fun c : Wst => (?rl, W.listOf c.tv.toArray c.tn) :: ?rest) (fun _ => []) (fun c => StrsAre c.tv c.ts) [] (fun pre c => c.ts = rulesOf ns ts k pre) ⟨[], 0, []⟩ rfl hR9 ?hsm ?hnn lF' lN' ?hf ?hk ?hp ?turn ?done)
    case hsm => exact small_one (by omega) (by omega) (by decide) (by decide)
    case hnn => exact range_n hk04.2
    case hf => exact .nil
    case hk => exact fun _ h => nomatch h
    case hp => rfl
    case done =>
      clear lF' lN' hR9
      intro c u h9 tk9 hrs hpr F9 N9
      obtain ⟨rv, rn, rs⟩ := c
      dsimp only at *
      obtain ⟨rest, rfl, hrest⟩ := strsAre_values hrs
      k_with_none
      k_with "call ref" => (refine stop_here ?_)
      try k_fold
      k_steps
      unfold StopAt
      have hrl : rest.length ≤ 4 := by
        have e : rest.length = rs.length := by rw [← hrest, List.length_map]
        rw [e, hpr]
        exact Nat.le_trans (rules_le _ _ _ _) (by rw [rangeKs_length]; omega)
      have hrb : ∀ y ∈ rest, y.1.length ≤ 40000 := by
        intro y hy
        have h1 : y.1 ∈ rs := by rw [← hrest]; exact List.mem_map_of_mem hy
        rw [hpr, rulesOf] at h1
        obtain ⟨j, _, e⟩ := List.mem_map.mp h1
        rw [← e]
        have := rule_len (ts.getD j.toNat Str.empty)
        have := htx j.toNat
        omega
      rename Fr _ _ _ _ => lF'
      rename News _ _ _ _ => lN'
      k_dflt (refine' conN_use lN' ?sub (str_con _ _ _ _ _ _ _ _ (_, _, _, _) _ (delayS (portI (ns.getD k.toNat 0))) _ _ _ rest (agent_len (ns.getD k.toNat 0)) (Nat.le_trans (delay_len _) (by decide)) hrl hrb ?ord) ?k1 lF' ?k3 ?k5 ?kK ?kd ?ku ?_)
      (case sub => (refine rec_sub ?s1 ?s2 ?s3 ?s4; (case s1 => k_mem); (case s2 => k_mem); (case s3 => k_mem); (case s4 => k_mem)))
      (case ord => omega)
      (case k1 => k_asm)
      (case k3 => k_asm)
      (case k5 => k_asm)
      (case kK => exact rfl)
      (case kd => ktr_room)
      (case ku => ktr_units)
      intro r8 h8 tk8 F8 N8 hp8
      obtain ⟨t8, rfl⟩ := hp8
      rw [hrest]
      dsimp only [StrBack]
      clear lF' lN'
      try k_fold
      k_with "setItem ref int" => (k_dflt (refine' set_K ?cF ?cN ?cU ?c0 ?c1 ?c2 ?_; (case cF => k_asm); (case cN => k_asm); (case cU => k_upd); (case c0 => omega); (case c1 => (rw [hvl]; omega)); (case c2 => omega)); intro h7 F7 N7)
      k_steps
      exact kst_end ⟨tv.set k.toNat (.str (recText (agentS (ns.getD k.toNat 0)) (delayS (portI (ns.getD k.toNat 0))) rs) t8), tn, ts.set k.toNat (recText (agentS (ns.getD k.toNat 0)) (delayS (portI (ns.getD k.toNat 0))) rs)⟩ F7 N7 led_sub1 own_sub1 rfl (strs_set hts _) (fun _ h => nomatch h)
        (by intro z h1 _ h3; simp only [List.contains_cons, List.contains_nil, Bool.or_false, Bool.or_eq_false_iff, beq_eq_false_iff_ne, ne_eq] at h3; simp [kstB, h1, h3]) (tx_next hp hkk hpre9 hpr)
    case turn =>
      clear lF' lN' hR9
      intro c pre j jt u h9 tk9 own2 hjj hpre9 hoff2 hrs hpr F9 N9
      obtain ⟨rv, rn, rs⟩ := c
      dsimp only [List.map, List.cons_append, List.nil_append] at *
      have hj14 : k < j ∧ j ≤ 4 := by omega
      have hyl := htx j.toNat
      have hyr := replace_len (ts.getD j.toNat Str.empty)
      have hrsl : rs.length ≤ 4 := by rw [hpr]; exact Nat.le_trans (rules_le _ _ _ _) (by omega)
      have hrvl : rv.length ≤ 4 := by rw [hrs.length]; exact hrsl
      k_with_none
      try k_fold
      k_steps
      · rename News _ _ _ _ => lN'
        simp only [List.push_toArray] at lN'
        exact kst_end ⟨rv ++ [Value.str _ _], rn + 1, rs ++ [rule (ts.getD j.toNat Str.empty)]⟩ (by assumption) lN' led_sub own_sub rfl (StrsAre.append' hrs (.cons _ _ .nil)) (fun _ h => nomatch h) (by intro z h1 _ _; simp [kstB, h1]) (rules_yes hpr (by assumption))
      · rename News _ _ _ _ => lN'
        exact kst_end ⟨rv, rn, rs⟩ (by assumption) lN' led_sub own_sub rfl hrs (fun _ h => nomatch h) (by intro z h1 _ _; simp [kstB, h1]) (rules_no hpr (by assumption))
end
end Mine
namespace Mine
section
local macro_rules | `(tactic| tb_start) => `(tactic| ((case kA => exact rfl); (case kF => exact rfl); (case kK => assumption); (case k1 => k_asm); (case k2 => k_asm); (case k3 => k_asm);  (case k5 => k_asm); (case k6 => k_is); (case k7 => k_is); (case k8 => ktr_room); (case k9 => exact BindsTo.of_eq rfl); (case c5 => decide); (case kB => exact locs rfl); (case c2 => exact rfl); (case c3 => exact rfl); (case c4 => exact rfl)))
theorem y_is {l : List (Str × Tok)} {y : Str} {ys : List Str} (h : l.map (·.1) = ys) (hy : (l.map (fun x => x.fst))[Int.toNat 3]? = some y) : ys[3]? = some y := by rw [← h]; exact hy
theorem len5x {l : List (Str × Tok)} {ys : List Str} {P Q : Prop} (h : l.map (·.1) = ys) (hy : ys.length = 5) (q : (l.length : Int) = 5 → Q) : if ((l.length : Int) != 5) = true then P else Q := by
  have : l.length = 5 := by rw [← hy, ← h, List.length_map]
  exact if_no (by rw [this]; rfl) (q (by rw [this]; rfl))
theorem isTuple_of_news {h₀ h : Heap} {L a : Addr} {its : Array Value} {n : Nat} {news : List (Addr × Obj)} (N : News h₀ L h news) (hm : (a, ({ cls := .type "tuple", data := .seq its n } : Obj)) ∈ news) : h.IsTuple a its := by
  have := (N _ hm).1
  exact ⟨_, this, rfl, n, rfl⟩
/-- a new pair: its object, and that it did not stand before -/
def IsPairNew (h h' : Heap) (D : Addr) (a b : Value) : Prop := h'.get? D = some { cls := .type "tuple", data := .seq #[a, b] } ∧ h.get? D = none
theorem p229_con (w : World) (mean : ExcName → Option Value) (mg mb : Str → Option Value) (p : Int) (h0 : 0 ≤ p) (hp : p < 1000) (t : Tok) (pa : Addr) (v v2 : Value) :
    Con w mean mg mb 1 65 [.str (delayS p) t, .ref pa] (fun h => h.IsTuple pa #[v, v2]) (fun h h' r => ∃ D t', r = .ref D ∧ IsPairNew h h' D v (.int p t')) := by
  have h1 := d1 p h0
  have h2 := d2 p h0
  have h3 := d3 p h0
  have h4 := d4 p h0
  have h5 := d5 p h0
  have h6 := d6 p h0
  have h7 : PySem.intText? (Str.ofString (toString p)) = some p := KIN.num_reads h0 (by omega)
  have h8 : (Str.ofString (toString p)).length ≤ 10 := by
    rw [PySem.ofString_length]
    have h1 := int_text_length_le10 (a := p) (k := 3) (by decide) (by omega)
    omega
  have hl := delay_length p
  generalize hR : ((9 + (Str.ofString (toString p)).length : Nat) : Int) = R at h3 h5 h6
  generalize Str.ofString (toString p) = ps at *
  generalize delayS p = x at *
  have hR' : 5 < R ∧ R < x.length := by omega
  have hx : 9 < x.length ∧ x.length ≤ 1000 := by omega
  clear hR hl
  unfold Con
  k_fill
  intro dp un gd cn cs a ccd cl outer A₀ base h₀ L m s Q E B F X T hk hd hu hpre hret
  refine wpAny_call ?_
  k_dflt (refine' enter_whole (binds := [(Str.ofString "resp", .str x t), (Str.ofString "peer", .ref pa)]) ?k1 ?k2 ?k3 ?k5 ?kA ?kF ?kK ?k6 ?k7 ?k8 ?k9 ?kB ?_ ?c2 ?c3 ?c4 ?c5)
  tb_start
  intro g' L' h' hg' F' N' B' X' T'
  try dsimp only
  clear B F X T
  have hL : g'.IsTuple pa #[v, v2] := hg' ▸ hpre
  have h6a : Txt.split (Txt.slice x (some (4 + 1)) (some R)) (Txt.item x (4 + 1)) = [Str.ofString "", Str.ofString "", Str.ofString "", ps, Str.ofString ""] := by rw [h4]; exact h6
  have h6b : (Txt.split (Txt.slice x (some (4 + 1)) (some R)) (Txt.item x (4 + 1))).length = 5 := by rw [h6a]; rfl
  try k_fold
  k_with_none
  k_with "storeName" => (first | rw [h2] | rw [h3] | rw [h6])
  k_with "compareOp" => (first | rw [h4] | rw [h5])
  k_with "ite" => first | refine if_no (by assumption) ?_ | refine if_no (by rfl) ?_ |  refine if_no (by simp only [h4, h5]; decide) ?_ | refine if_no (by simp only [decide_eq_false_iff_not]; omega) ?_
  k_with "ite" => (refine len5x (by assumption) h6b ?_; intro hl5)
  k_with "call type:int" => (refine KIN.call_text (n := p) ?_ ?_ ?_; (have hy9 := y_is (by assumption) (by assumption); rw [h6a] at hy9; rw [← Option.some.inj hy9]; exact h7); (have hy9 := y_is (by assumption) (by assumption); rw [h6a] at hy9; rw [← Option.some.inj hy9]; omega))
  k_steps
  rename News _ _ _ _ => lN'
  have n0 := lN' _ (.head _)
  dsimp only
  exact con_ret (s := s) (post := fun h h' r => ∃ D t', r = .ref D ∧ IsPairNew h h' D v (.int p t')) hret hg' (by assumption) ⟨_, _, rfl, n0.1, n0.2.2⟩
end
end Mine
namespace Mine
section
local macro_rules | `(tactic| tb_start) => `(tactic| ((case kA => exact rfl); (case kF => exact rfl); (case kK => assumption); (case k1 => k_asm); (case k2 => k_asm); (case k3 => k_asm);  (case k5 => k_asm); (case k6 => k_is); (case k7 => k_is); (case k8 => ktr_room); (case k9 => exact BindsTo.of_eq rfl); (case c5 => decide); (case kB => exact locs rfl); (case c2 => exact rfl); (case c3 => exact rfl); (case c4 => exact rfl)))
structure Rst where
  rest : List (Addr × Obj)
  rv : List Value
  rn : Nat
  wa : Nat
  wv : List Value
  wn : Nat
  stk : List Int
  rows : List Dat
def Rst.led (ra : Nat) (c : Rst) : List (Addr × Obj) := (c.wa, W.listOf c.wv.toArray c.wn) :: (ra, W.listOf c.rv.toArray c.rn) :: c.rest
structure Rst.Ok (ns : List Int) (ra : Nat) (c : Rst) : Prop where
  wstrs : StrsAre c.wv (c.stk.map (Tk ns))
  off : OwnOff c.rest [c.wa, ra]
  ne : ra < c.wa
  dat : DatAll c.rest c.rv c.rows
theorem strs_snoc {wv : List Value} {st : List Str} {k : Str} (h : StrsAre wv (st ++ [k])) : ∃ wp t, wv = wp ++ [.str k t] ∧ StrsAre wp st := by
  obtain ⟨l, rfl, hl⟩ := strsAre_values h
  rcases nil_or_snoc l with rfl | ⟨l', y, rfl⟩
  · simp at hl
  · rw [List.map_append] at hl
    obtain ⟨e1, e2⟩ := snoc_inj hl
    refine ⟨strValues l', y.2, ?_, e1 ▸ strs_values l'⟩
    simp [strValues, e2]
theorem two_strs {l : List (Str × Tok)} {a b c : Str} (h : l.map (·.1) = [a, b, c]) : ∃ t0 t1 t2, strValues l = [.str a t0, .str b t1, .str c t2] := by
  match l, h with
  | [x, y, z], h =>
    simp only [List.map_cons, List.map_nil, List.cons.injEq, and_true] at h
    obtain ⟨rfl, rfl, rfl⟩ := h
    exact ⟨_, _, _, rfl⟩
section
variable {prog : Program} {w : World} {A : Around} {E : Value → Shared → Prop} {s : Shared} {h₀ : Heap} {L : Addr} {m : Str → Option Value} {news : List (Addr × Obj)}
theorem split_K {x a b c : Str} {t u v : Tok} {Q : Value → Shared → Prop} (F : Fr h₀ L s.heap m) (N : News h₀ L s.heap news) (hx : Txt.splitMax x (Str.ofString "\n") 2 = [a, b, c]) (hz : x.length + 2 ≤ sizeLine)
    (h : ∀ D t0 t1 t2 h' tk, Fr h₀ L h' m → News h₀ L h' ((D, W.listOf #[.str a t0, .str b t1, .str c t2] 0) :: news) → (∀ p ∈ news, p.1 < D) → Q (.ref D) { s with heap := h', toks := tk }) :
    wpAny (model prog w) A (call (.builtin "str.split") [.str x t, .str (Str.ofString "\n") u, .int 2 v]) Q E s := by
  refine splitN2A (hsz := hz) F N (by decide +kernel) (by decide) fun l h' tk hl _ _ _ F' N' => ?_
  rw [hx] at hl
  obtain ⟨t0, t1, t2, e⟩ := two_strs hl
  rw [e] at N'
  exact h _ t0 t1 t2 h' tk F' N' fun p hp => Heap.lt_size (N p hp).1
end
structure Ist where
  rest : Str
  tok : Tok
  ba : Nat
  bv : List Value
  bn : Nat
  done : List Str
  rem : List Str
def Ist.led (led0 : List (Addr × Obj)) (c : Ist) : List (Addr × Obj) := (c.ba, W.listOf c.bv.toArray c.bn) :: led0
structure Ist.Ok (led0 : List (Addr × Obj)) (c : Ist) : Prop where
  bstrs : StrsAre c.bv c.done.reverse
  lt : AllLt c.ba led0
structure Ist.P (ys : List Str) (c : Ist) : Prop where
  all : ys = c.done ++ c.rem
  rst : (ys = [] ∧ c.rest = Str.ofString "Allow:") ∨ (ys ≠ [] ∧ c.rest = tailOf c.rem)
  len : c.rest.length ≤ 16384
section
variable {prog : Program} {w : World} {A : Around} {E : Value → Shared → Prop} {Q : Flow → Shared → Prop} {s : Shared} {env : Env} {h₀ : Heap} {L : Addr}
theorem ksw_while2 {σ : Type} {test : Expr} {body : List Stmt} {pos : Pos} {m₀ : Str → Option Value} (Led : σ → List (Addr × Obj)) (ps : σ → List (Str × Value)) (Facts : σ → Prop) (stored : List Str) (P X : σ → Prop) (μ : σ → Nat) (c₀ : σ)
    (F : Fr h₀ L s.heap m₀) (N : News h₀ L s.heap (Led c₀)) (hf : Facts c₀) (hk : ∀ p ∈ ps c₀, m₀ p.1 = some p.2) (hp : P c₀)
    (turn : ∀ (c : σ) (u : Str → Option Value) h tk, Facts c → P c → Fr h₀ L h (kstB (fun z => if stored.contains z then u z else m₀ z) (ps c)) → News h₀ L h (Led c) →
      wpAny (model prog w) A (isTrue test env (eval test env)) (fun b s₂ =>
        if b = true then wpAny (model prog w) A (execs body env) (KswPost h₀ L s Led ps Facts stored m₀ P μ Q c) E s₂ else StopAt ((∃ tk', s₂ = { s with heap := h, toks := tk' }) ∧ X c)) E { s with heap := h, toks := tk })
    (exit : ∀ (c : σ) (u : Str → Option Value) h tk, Facts c → X c → Fr h₀ L h (kstB (fun z => if stored.contains z then u z else m₀ z) (ps c)) → News h₀ L h (Led c) → Q .next { s with heap := h, toks := tk })
    (hE : PassesOwn (model prog w) A env E := by passes_own) :
    wpAny (model prog w) A (exec (.While test body [] pos) env) Q E s := by
  refine ksw_while Led ps Facts stored P μ c₀ F N hf hk hp (fun c u h tk hf' hp' F' N' => ?_) hE
  refine wpAny_mono (turn c u h tk hf' hp' F' N') (fun b s₂ q => ?_) fun _ _ x => x
  cases b with
  | true => exact q
  | false =>
    obtain ⟨⟨tk', rfl⟩, hx⟩ := q
    exact exit c u h tk' hf' hx F' N'
end
theorem tail_ite (y : Str) (rem : List Str) {P Q : Prop} (h1 : ∀ z zs, rem = z :: zs → P) (h2 : rem = [] → Q) : if (Txt.slice (tailOf (y :: rem)) (some ((rule y).length : Int)) none != Str.ofString "") = true then P else Q := by
  cases rem with
  | nil => exact if_no (tail_end y) (h2 rfl)
  | cons z zs => exact if_yes (tail_more y z zs) (h1 z zs rfl)
theorem tail_le (y : Str) (rem : List Str) : (tailOf rem).length ≤ (tailOf (y :: rem)).length := by
  rw [← tail_next y rem]
  exact Txt.slice_le _ _ _
theorem inner_end {g h : Heap} {L : Addr} {s : Shared} {m₀ m' : Str → Option Value} {led0 : List (Addr × Obj)} {D' l' ba bn tk : Nat} {bv : List Value} {y : Str} {t9 tok tok8 : Tok} {x1 x2 : Obj} {done rem ys : List Str} {stored : List Str}
    (F : Fr g L h m') (N : News g L h ((D', W.listOf ([Value.str y t9] ++ bv).toArray 0) :: (l', x1) :: (ba, x2) :: led0)) (hlt : l' < D' ∧ ba < D' ∧ AllLt D' led0)
    (hbs : StrsAre bv done.reverse) (hdr : ys = done ++ (y :: rem)) (hy1 : ys ≠ []) (hlen : (tailOf (y :: rem)).length ≤ 16384)
    (hk1 : m' (Str.ofString "rest") = some (.str (tailOf rem) tok)) (hk2 : m' (Str.ofString "below") = some (.ref D')) (hr : ∀ z, z ≠ Str.ofString "rest" → z ≠ Str.ofString "below" → stored.contains z = false → m' z = m₀ z) :
    KswEnd g L s (Ist.led led0) (fun c => [(Str.ofString "rest", .str c.rest c.tok), (Str.ofString "below", .ref c.ba)]) (Ist.Ok led0) stored m₀ (Ist.P ys) (fun c => c.rem.length)
      ⟨tailOf (y :: rem), tok8, ba, bv, bn, done, y :: rem⟩ { s with heap := h, toks := tk } := by
  refine ksw_end ⟨tailOf rem, tok, D', .str y t9 :: bv, 0, done ++ [y], rem⟩ F N ?_ ⟨?_, hlt.2.2⟩ ?_ ?_ ⟨?_, .inr ⟨hy1, rfl⟩, Nat.le_trans (tail_le y rem) hlen⟩ ?_
  · intro p hp
    simp only [Ist.led, List.mem_cons] at hp
    rcases hp with rfl | hp
    · exact .head _
    · exact .tail _ (.tail _ (.tail _ hp))
  · rw [List.reverse_append]
    exact .cons _ _ hbs
  · intro p hp
    simp only [List.mem_cons, List.not_mem_nil, or_false] at hp
    rcases hp with rfl | rfl
    · exact hk1
    · exact hk2
  · intro z hz hst
    exact hr z (hz _ (.head _)) (hz _ (.tail _ (.head _))) hst
  · rw [hdr]; simp
  · show rem.length < (y :: rem).length
    simp
theorem rest_test (ys : List Str) : (ys.reverse.isEmpty != (restOf (ys.map rule) == Str.ofString "Allow:")) = false := by
  cases ys with
  | nil => decide +kernel
  | cons y ys =>
    have h := rest_allow (ys := y :: ys) (by simp)
    have e : restOf ((y :: ys).map rule) = tailOf (y :: ys) := rfl
    rw [e, h]
    simp
theorem use229 {w : World} {mean : ExcName → Option Value} {mg mb : Str → Option Value} {p : Int} {t : Tok} {pa : Addr} {v v2 : Value} {pn : Nat}
    {dp un : Nat} {gd : Option (List Code)} {cn : Str} {cs : Scope} {a : Addr} {ccd : Value} {cl : List (Str × Addr)} {outer : List Env} {A₀ : Around} {base h₀ : Heap} {L : Addr} {m : Str → Option Value} {s : Shared} {Q E : Value → Shared → Prop} {news : List (Addr × Obj)}
    (h0 : 0 ≤ p) (h1 : p < 1000) (hm : (pa, ({ cls := .type "tuple", data := .seq #[v, v2] pn } : Obj)) ∈ news)
    (B : Below A₀ base outer h₀) (F : Fr h₀ L s.heap m) (X : (hd.heap_39 w.params).In h₀) (N : News h₀ L s.heap news) (T : Top hd.view_39 (looseW hd.view_39 []) mean mg mb h₀) (hk : cs.kind = .function) (hd : dp + 1 < recursionLimit) (hu : un + 8 * 1 < cLine)
    (ret : ∀ D t' h' tk', Fr h₀ L h' m → News h₀ L h' ((D, { cls := .type "tuple", data := .seq #[v, .int p t'] }) :: news) → (∀ q ∈ news, q.1 ≠ D) → Q (.ref D) { s with heap := h', toks := tk' }) :
    wpAny (model PySem.Challenge.rw_ny0094_01.row.prog w) (ktrTop dp un gd cn cs L a ccd cl outer) (call (.ref 65) [.str (delayS p) t, .ref pa]) Q E s := by
  refine con_use (p229_con w mean mg mb p h0 h1 t pa v v2) B F X N T hk hd hu (isTuple_of_news N hm) fun r h' tk' F' N' st hp => ?_
  obtain ⟨D, t', rfl, hD, hn⟩ := hp
  refine ret D t' h' tk' F' (fun q hq => ?_) fun q hq e => ?_
  · rcases List.mem_cons.mp hq with rfl | hq
    · refine ⟨hD, fun e => ?_, ?_⟩
      · obtain ⟨oL, _, _, hL, _⟩ := F.ns
        have e' : D = L := e
        rw [e', hL] at hn
        cases hn
      · show h₀.get? D = none
        cases hq : h₀.get? D with
        | none => rfl
        | some o => rw [F.keep _ _ hq] at hn; cases hn
    · exact N' q hq
  · have e' : q.1 = D := e
    have := (N q hq).1
    rw [e', hn] at this
    cases this
theorem read_end {g h : Heap} {L : Addr} {s : Shared} {m₀ m' : Str → Option Value} {ra wa Wa D1 D2 : Nat} {rest news : List (Addr × Obj)} {rv wp bv wv : List Value} {rn wn tk : Nat} {st ns : List Int} {k : Int} {rows R : List Dat} {ys : List Str} {cnt : Int} {t1 t2 t3 t4 : Tok} {stored : List Str}
    (F : Fr g L h m') (N : News g L h news) (mW : (Wa, W.listOf (wp ++ bv).toArray 0) ∈ news) (m2 : (D2, ({ cls := .type "tuple", data := .seq #[.str (agentS (numAt ns k)) t1, .ref D1, .int cnt t2] } : Obj)) ∈ news)
    (m1 : (D1, ({ cls := .type "tuple", data := .seq #[.int (rows.length : Int) t3, .int (portI (numAt ns k)) t4] } : Obj)) ∈ news) (mr : (ra, W.listOf (rv.toArray.push (.ref D2)) (rn + 1)) ∈ news) (mrest : ∀ p ∈ rest, p ∈ news)
    (o1 : D2 < Wa) (o2 : D1 < Wa) (o3 : D2 ≠ ra) (o4 : D1 ≠ ra) (o5 : ra < Wa) (o6 : ∀ p ∈ rest, p.1 ≠ Wa) (hoff : OwnOff rest [wa, ra]) (hdat : DatAll rest rv rows) (hwp : StrsAre wp (st.map (Tk ns))) (hbs : StrsAre bv ys.reverse) (hys : (kidsUp ns k).map (Tk ns) = ys)
    (hcnt : cnt = (ys.length : Int)) (hkb : ∀ j ∈ st ++ [k], 0 ≤ j ∧ j ≤ 4) (hsl : rows.length + (wt st + 2 ^ (4 - k).toNat) ≤ 16) (hrun : Run ns rows (st ++ [k]) R)
    (hk : m' (Str.ofString "waiting") = some (.ref Wa)) (hr : ∀ z, z ≠ Str.ofString "waiting" → stored.contains z = false → m' z = m₀ z) :
    KswEnd g L s (Rst.led ra) (fun c => [(Str.ofString "waiting", .ref c.wa)]) (Rst.Ok ns ra) stored m₀
      (fun c => c.rows.length + wt c.stk ≤ 16 ∧ (∀ k ∈ c.stk, 0 ≤ k ∧ k ≤ 4) ∧ Run ns c.rows c.stk R) (fun c => wt c.stk)
      ⟨rest, rv, rn, wa, wv, wn, st ++ [k], rows⟩ { s with heap := h, toks := tk } := by
  have hk04 := hkb k (by simp)
  have hwk := wt_kids ns hk04.1 hk04.2
  have hkd := kids_rev ns hk04.1 hk04.2
  have hcn : cnt = ((kidsDown ns k).length : Int) := by rw [hcnt, hkd, ← hys, List.length_reverse, List.length_map]
  subst hcn
  refine ksw_end ⟨(D2, { cls := .type "tuple", data := .seq #[.str (agentS (numAt ns k)) t1, .ref D1, .int ((kidsDown ns k).length : Int) t2] }) :: (D1, { cls := .type "tuple", data := .seq #[.int (rows.length : Int) t3, .int (portI (numAt ns k)) t4] }) :: rest,
    rv ++ [.ref D2], rn + 1, Wa, wp ++ bv, 0, st ++ kidsDown ns k, rows ++ [rowD ns rows.length k]⟩ F N ?_ ⟨?_, ?_, o5, ?_⟩ ?_ ?_ ⟨?_, ?_, hrun.snoc_inv⟩ ?_
  · intro p hp
    simp only [Rst.led, List.mem_cons] at hp
    rcases hp with rfl | rfl | rfl | rfl | hp
    · exact mW
    · rw [List.push_toArray] at mr; exact mr
    · exact m2
    · exact m1
    · exact mrest p hp
  · rw [List.map_append]
    have e : (kidsDown ns k).map (Tk ns) = ys.reverse := by rw [hkd, ← hys, List.map_reverse]
    rw [e]
    obtain ⟨l1, rfl, e1⟩ := strsAre_values hwp
    obtain ⟨l2, rfl, e2⟩ := strsAre_values hbs
    rw [← e1, ← e2]
    have := strs_values (l1 ++ l2)
    simpa [strValues] using this
  · intro p hp b hb
    simp only [List.mem_cons, List.not_mem_nil, or_false] at hp hb
    rcases hp with rfl | rfl | hp
    · rcases hb with rfl | rfl
      · exact Nat.ne_of_lt o1
      · exact o3
    · rcases hb with rfl | rfl
      · exact Nat.ne_of_lt o2
      · exact o4
    · rcases hb with rfl | rfl
      · exact o6 p hp
      · exact hoff p hp _ (by simp)
  · refine DatAll.append (hdat.mono fun p hp => by simp [hp]) (DatAll.one ?_)
    refine DatIn.tuple (vs := [.str (agentS (numAt ns k)) t1, .ref D1, .int ((kidsDown ns k).length : Int) t2]) (n := 0) (by simp) (.cons (.str _ _) (.cons (DatIn.tuple (vs := [.int (rows.length : Int) t3, .int (portI (numAt ns k)) t4]) (n := 0) (by simp) (.cons (.int _ _) (.cons (.int _ _) .nil))) (.cons (.int _ _) .nil)))
  · intro p hp
    rw [List.mem_singleton.mp hp]
    exact hk
  · intro z hz hst
    exact hr z (hz _ (List.mem_singleton.mpr rfl)) hst
  · show (rows ++ [_]).length + wt (st ++ _) ≤ 16
    rw [wt_append, List.length_append, List.length_singleton]
    omega
  · intro j hj
    rcases List.mem_append.mp hj with hj | hj
    · exact hkb j (by simp [hj])
    · have := mem_kids hj; omega
  · show wt (st ++ _) < wt (st ++ _)
    rw [wt_append, wt_append, wt_one]
    omega
section
variable {prog : Program} {w : World} {A : Around} {E : Value → Shared → Prop} {s : Shared} {h₀ : Heap} {L : Addr} {news : List (Addr × Obj)}
theorem item_K {value slice : PySem.Expr} {D : Addr} {its : Array Value} {n : Nat} {k : Int} {u : Tok} {v : Value} {Q : Value → Shared → Prop} (N : News h₀ L s.heap news) (hm : (D, W.listOf its n) ∈ news) (h0 : 0 ≤ k) (hhi : k < 2 ^ 63) (hx : its[k.toNat]? = some v) (h : Q v s)
    (hs : subscripted slice false (.ref D) (.int k u) = operate [.ref D, .int k u] (getItem (.ref D) (.int k u)) := by with_unfolding_all rfl) :
    wpAny (model prog w) A (subscriptTail value slice (.ref D) (.int k u)) Q E s :=
  tail_any (isList_of_news N hm).typeIs slot_list_getitem.lookup (wpAny_getItem_list (isList_of_news N hm) h0 hhi hx h) hs
theorem item_0 {value : PySem.Expr} {i : Int} {c0 : Nat} {pos : Pos} {D : Addr} {a b c : Value} {n : Nat} {u : Tok} {Q : Value → Shared → Prop} (N : News h₀ L s.heap news) (hm : (D, W.listOf #[a, b, c] n) ∈ news) (h : Q a s) :
    wpAny (model prog w) A (subscriptTail value (.Constant (.int i) c0 pos) (.ref D) (.int 0 u)) Q E s := item_K N hm (by decide) (by decide) rfl h
theorem item_1 {value : PySem.Expr} {i : Int} {c0 : Nat} {pos : Pos} {D : Addr} {a b c : Value} {n : Nat} {u : Tok} {Q : Value → Shared → Prop} (N : News h₀ L s.heap news) (hm : (D, W.listOf #[a, b, c] n) ∈ news) (h : Q b s) :
    wpAny (model prog w) A (subscriptTail value (.Constant (.int i) c0 pos) (.ref D) (.int 1 u)) Q E s := item_K N hm (by decide) (by decide) rfl h
theorem item_2 {value : PySem.Expr} {i : Int} {c0 : Nat} {pos : Pos} {D : Addr} {a b c : Value} {n : Nat} {u : Tok} {Q : Value → Shared → Prop} (N : News h₀ L s.heap news) (hm : (D, W.listOf #[a, b, c] n) ∈ news) (h : Q c s) :
    wpAny (model prog w) A (subscriptTail value (.Constant (.int i) c0 pos) (.ref D) (.int 2 u)) Q E s := item_K N hm (by decide) (by decide) rfl h
end
theorem read_con (w : World) (mean : ExcName → Option Value) (mg mb : Str → Option Value) (ns : List Int) (t : Tok) (R : List Dat) (hR : Run ns [] [0] R) : Con w mean mg mb 20 154 [.str (Tk ns 0) t] (fun _ => True) (fun _ h' r => ∃ as, Reads h' r (.list (kqdPs R)) as) := by
  unfold Con
  k_fill
  intro dp un gd cn cs a ccd cl outer A₀ base h₀ L m s Q E B F X T hk hd hu hpre hret
  refine wpAny_call ?_
  k_dflt (refine' enter_whole (binds := [(Str.ofString "text", .str (Tk ns 0) t)]) ?k1 ?k2 ?k3 ?k5 ?kA ?kF ?kK ?k6 ?k7 ?k8 ?k9 ?kB ?_ ?c2 ?c3 ?c4 ?c5)
  tb_start
  intro g' L' h' hg' F' N' B' X' T'
  try dsimp only
  clear B F X T
  try k_fold
  k_with_none
  k_with "exec While Compare cons nil" => refine stop_here ?_
  k_steps
  unfold StopAt
  rename Fr _ _ _ _ => lF'
  rename News _ _ _ _ => lN'
  with_unfolding_all (refine' ksw_while (Rst.led ?ra) (fun c => [(Str.ofString "waiting", .ref c.wa)]) (Rst.Ok ns ?ra) [Str.ofString "lines", Str.ofString "rest", Str.ofString "below", Str.ofString "inner", Str.ofString "size"] (fun c => c.rows.length + wt c.stk ≤ 16 ∧ (∀ k ∈ c.stk, 0 ≤ k ∧ k ≤ 4) ∧ Run ns c.rows c.stk R) (fun c => wt c.stk) ⟨[], [], 0, _, [.str (Tk ns 0) _], 0, [0], []⟩ lF' lN' ?kf ?kk ?kp ?_)
  (case kf => exact ⟨.cons _ _ .nil, fun _ h => (nomatch h), by dsimp only; omega, .nil⟩)
  (case kk => kst_all)
  (case kp => exact ⟨by dsimp only; decide, by simp, hR⟩)
  clear lF' lN'
  intro c u h9 tk9 hok hp F9 N9
  obtain ⟨rest, rv, rn, wa, wv, wn, stk, rows⟩ := c
  obtain ⟨hstrs, hoff, hne, hdat⟩ := hok
  obtain ⟨hsl, hkb, hrun⟩ := hp
  dsimp only [Rst.led] at *
  k_with_none
  rcases nil_or_snoc stk with rfl | ⟨st, k, rfl⟩
  · have hMk := kstMark
    try k_fold
    k_with "compareOp NotEq ref ref" => (k_dflt (refine' ne_nil_K (xs := []) ?cN ?cA ?cB ?cS ?cX ?cU ?_; (case cN => k_asm); (case cA => k_mem); (case cB => k_mem); (case cS => k_asm); (case cX => exact fun _ h => nomatch h); (case cU => ktr_units)))
    k_with "ite" => refine if_no rfl ?_
    k_steps
    dsimp only
    repeat (k_unfold; try dsimp only)
    obtain rfl := hrun.nil_inv
    exact con_ret (post := fun _ h' r => ∃ as, Reads h' r (.list (kqdPs R)) as) hret hg' (by assumption) (drawn_ret (by assumption) (.tail _ (.tail _ (.head _))) (fun p hp => .tail _ (.tail _ (.tail _ hp))) hdat (hR.ok (fun _ h => (nomatch h))))
  · rw [List.map_append] at hstrs
    obtain ⟨wp, wt, rfl, hstrs'⟩ := strs_snoc hstrs
    have hk04 := hkb k (by simp)
    have hwk := wt_kids ns hk04.1 hk04.2
    have hkl := kids_le ns hk04.1 hk04.2
    rw [wt_append, wt_one] at hsl
    have hwl : wp.length ≤ 16 := by have h1 := hstrs'.length; have h2 := wt_length st; rw [List.length_map] at h1; omega
    have hrl : rv.length = rows.length := hdat.length
    have hrl2 : rv.length ≤ 16 := by omega
    have hTl := tk_len ns k
    have hok9 : ∀ x ∈ st.map (Tk ns) ++ [k].map (Tk ns), PyData.strOk x = true := by
      intro x hx
      rw [← List.map_append] at hx
      obtain ⟨j, _, rfl⟩ := List.mem_map.mp hx
      exact tk_ok ns j
    have hne9 : (!(st.map (Tk ns) ++ [k].map (Tk ns)).isEmpty) = true := by simp
    have hMk := kstMark
    generalize hys : (kidsUp ns k).map (Tk ns) = ys
    have hTk : Tk ns k = recText (agentS (numAt ns k)) (delayS (portI (numAt ns k))) (ys.map rule) := by rw [← hys, tk_is ns hk04.1 hk04.2, List.map_map]; rfl
    have hspl : Txt.splitMax (Tk ns k) (Str.ofString "\n") 2 = [Str.ofString "User-agent: " ++ agentS (numAt ns k), Str.ofString "Crawl-delay: " ++ delayS (portI (numAt ns k)), restOf (ys.map rule)] := by rw [hTk]; exact rec_split _ (agent_nl _) (delay_nl _)
    have f0 : (Txt.slice (Str.ofString "User-agent: " ++ agentS (numAt ns k)) none (some 12) != Str.ofString "User-agent: ") = false := by
      rw [show (12 : Int) = ((12 : Nat) : Int) from rfl, cut_left _ _ (by decide +kernel)]; simp
    have f1 : (Txt.slice (Str.ofString "Crawl-delay: " ++ delayS (portI (numAt ns k))) none (some 13) != Str.ofString "Crawl-delay: ") = false := by
      rw [show (13 : Int) = ((13 : Nat) : Int) from rfl, cut_left _ _ (by decide +kernel)]; simp
    have f0' : Txt.slice (Str.ofString "User-agent: " ++ agentS (numAt ns k)) (some 12) none = agentS (numAt ns k) := cut_right _ _ (n := 12) (by decide +kernel)
    have f1' : Txt.slice (Str.ofString "Crawl-delay: " ++ delayS (portI (numAt ns k))) (some 13) none = delayS (portI (numAt ns k)) := cut_right _ _ (n := 13) (by decide +kernel)
    have hL0 : (Str.ofString "User-agent: " ++ agentS (numAt ns k)).length ≤ 1000 := by
      have := agent_len (numAt ns k); have e : (Str.ofString "User-agent: ").length = 12 := by decide +kernel
      rw [Str.length_append]; omega
    have hL1 : (Str.ofString "Crawl-delay: " ++ delayS (portI (numAt ns k))).length ≤ 1000 := by
      have := delay_len (numAt ns k); have e : (Str.ofString "Crawl-delay: ").length = 13 := by decide +kernel
      rw [Str.length_append]; omega
    have hL2 : (restOf (ys.map rule)).length ≤ 16384 := by
      rw [hTk, ← len_list, rec_list] at hTl
      rw [← len_list]
      simp only [List.length_append, List.length_cons] at hTl
      omega
    generalize hL0g : Str.ofString "User-agent: " ++ agentS (numAt ns k) = L0 at *
    generalize hL1g : Str.ofString "Crawl-delay: " ++ delayS (portI (numAt ns k)) = L1 at *
    generalize hL2g : restOf (ys.map rule) = L2 at *
    try k_fold
    k_with "call builtin:list.pop" => (k_dflt (refine' kl_pop (p := wp) (y := .str (Tk ns k) wt) ?F ?N ?l ?U ?z ?_; (case F => k_asm); (case N => k_asm); (case l => exact kpa_last _ _); (case U => k_upd); (case z => (simp only [List.length_append, List.length_cons, List.length_nil]; rw [PySem.sizeLine_eq]; omega))); intro h' F' N'; try dsimp only)
    k_with "compareOp NotEq ref ref" => (k_dflt (refine' ne_nil_K ?cN ?cA ?cB hstrs ?cX ?cU ?_; (case cN => k_asm); (case cA => k_mem); (case cB => k_mem); (case cX => exact hok9); (case cU => ktr_units)))
    k_with "ite" => refine if_yes hne9 ?_
    k_with "call builtin:str.split" => (k_dflt (refine' split_K ?cF ?cN ?cX ?cZ ?_; (case cF => k_asm); (case cN => k_asm); (case cX => exact hspl); (case cZ => (rw [PySem.sizeLine_eq]; omega))); intro D' t0' t1' t2' h' tk' F' N' l1'; (try k_lt l1'); (try k_fold))
    k_with "exec While BoolOp" => (refine stop_here ?_)
    k_with "exec While" => (refine stop_here ?_)
    k_with "subscriptTail Subscript" => (k_dflt (refine kba_turn (value' := PySem.Expr.Name (PySem.Str.ofString "_") ⟨0, 0, 0, 0⟩) (fun _ => rfl) ?_))
    k_with "subscriptTail Name Constant ref int" => (k_dflt (first | ((with_reducible show wpAny _ _ (subscriptTail _ _ _ (Value.int 0 _)) _ _ _); refine' item_0 ?iN ?iM ?_; (case iN => k_asm); (case iM => k_mem)) | ((with_reducible show wpAny _ _ (subscriptTail _ _ _ (Value.int 1 _)) _ _ _); refine' item_1 ?iN ?iM ?_; (case iN => k_asm); (case iM => k_mem)) | ((with_reducible show wpAny _ _ (subscriptTail _ _ _ (Value.int 2 _)) _ _ _); refine' item_2 ?iN ?iM ?_; (case iN => k_asm); (case iM => k_mem))))
    k_with "ite" => refine if_no f0 ?_
    k_with "ite" => refine if_no f1 ?_
    k_steps
    unfold StopAt
    rename Fr _ _ _ _ => lF'
    rename News _ _ _ _ => lN'
    with_unfolding_all (refine' ksw_while2 (Ist.led ?led0) (fun c => [(Str.ofString "rest", .str c.rest c.tok), (Str.ofString "below", .ref c.ba)]) (Ist.Ok ?led0) [Str.ofString "inner", Str.ofString "size"] (Ist.P ys) (fun c => c.done = ys) (fun c => c.rem.length) ⟨L2, _, _, [], 0, [], ys⟩ lF' lN' ?kf ?kk ?kp ?turn ?exit)
    (case kf => exact ⟨.nil, by assumption⟩)
    (case kk => kst_all)
    (case kp => exact ⟨rfl, (by rw [← hL2g]; rcases rest_cases ys with h | h; exact .inl h; exact .inr h), hL2⟩)
    case exit =>
      clear lF' lN'
      intro c u2 h8 tk8 hf8 hx8 F8 N8
      obtain ⟨rest8, tok8, ba, bv, bn, done, rem⟩ := c
      obtain ⟨hbs, hblt⟩ := hf8
      dsimp only [AllLt, Ist.led] at *
      subst hx8
      have gx : (done.reverse.isEmpty != (L2 == Str.ofString "Allow:")) = false := by rw [← hL2g]; exact rest_test done
      have hokb : ∀ x ∈ done.reverse, PyData.strOk x = true := by
        intro x hx
        rw [← hys, ← List.map_reverse] at hx
        obtain ⟨j, _, rfl⟩ := List.mem_map.mp hx
        exact tk_ok ns j
      have hbl : bv.length ≤ 16 := by
        have h1 := hbs.length
        have h2 : (kidsDown ns k).length = done.length := by rw [kids_rev ns hk04.1 hk04.2, List.length_reverse, ← hys, List.length_map]
        rw [List.length_reverse] at h1
        omega
      k_with_none
      k_with "subscriptTail Subscript" => (k_dflt (refine kba_turn (value' := PySem.Expr.Name (PySem.Str.ofString "_") ⟨0, 0, 0, 0⟩) (fun _ => rfl) ?_))
      k_with "subscriptTail Name Constant ref int" => (k_dflt (first | ((with_reducible show wpAny _ _ (subscriptTail _ _ _ (Value.int 0 _)) _ _ _); refine' item_0 ?iN ?iM ?_; (case iN => k_asm); (case iM => k_mem)) | ((with_reducible show wpAny _ _ (subscriptTail _ _ _ (Value.int 1 _)) _ _ _); refine' item_1 ?iN ?iM ?_; (case iN => k_asm); (case iM => k_mem)) | ((with_reducible show wpAny _ _ (subscriptTail _ _ _ (Value.int 2 _)) _ _ _); refine' item_2 ?iN ?iM ?_; (case iN => k_asm); (case iM => k_mem))))
      k_with "compareOp Eq ref ref" => (k_dflt (refine' eq_nil_K ?cN ?cA ?cB hbs ?cX ?cU ?_; (case cN => k_asm); (case cA => k_mem); (case cB => k_mem); (case cX => exact hokb); (case cU => ktr_units)))
      k_with "ite" => refine if_no gx ?_
      k_with "call ref" => (refine stop_here ?_)
      k_with "binaryOp Add ref ref" => (k_dflt (refine' cat_K (vs := wp) (ws := bv) ?cF ?cN ?cA ?cB ?cZ ?_; (case cF => k_asm); (case cN => k_asm); (case cA => k_mem); (case cB => k_mem); (case cZ => (rw [PySem.sizeLine_eq]; omega))); intro Dw h' F' N' lw; (try k_lt lw))
      try k_fold
      k_steps
      unfold StopAt
      rw [f1']
      rename News _ _ _ _ => lN8
      rename Fr _ _ _ _ => lF8
      k_dflt (refine' use229 (port_lt _).1 (port_lt _).2 (List.Mem.head _) ?ub lF8 ?ux lN8 ?ut ?uk ?ud ?uu ?_)
      (case ub => k_asm)
      (case ux => k_asm)
      (case ut => k_asm)
      (case uk => exact rfl)
      (case ud => ktr_room)
      (case uu => ktr_units)
      clear lN8 lF8
      intro Dp tp hp9 tkp Fp Np hneP
      simp only [List.forall_mem_cons] at hneP
      obtain ⟨q1, q2, q3, q4, q5, q6, q7, q8⟩ := hneP
      replace q1 := neN q1
      replace q2 := neN q2
      replace q3 := neN q3
      replace q4 := neN q4
      replace q5 := neN q5
      replace q6 := neN q6
      replace q7 := neN q7
      rw [f0']
      try dsimp only
      try k_fold
      have hbl' : bv.length = done.length := by rw [hbs.length, List.length_reverse]
      have hMk := kstMark
      k_with "call builtin:len" => (k_dflt (refine' kst_len (us := bv) ?lN ?lM hbl' ?lZ ?_; (case lN => k_asm); (case lM => k_mem); (case lZ => omega)))
      k_steps
      rename News _ _ _ _ => lN8
      refine' read_end (ys := done) ?rF lN8 ?mW ?m2 ?m1 ?mr ?mrest ?o1 ?o2 ?o3 ?o4 ?o5 ?o6 hoff hdat hstrs' hbs hys ?hc hkb hsl hrun ?hk ?hr
      (case rF => assumption)
      (case mW => k_mem)
      (case mr => k_mem)
      (case m2 => k_mem)
      (case m1 => k_mem)
      (case mrest => (intro p hp; kst_mem))
      (case hc => rfl)
      (case hk => rfl)
      (case o1 => omega)
      (case o2 => omega)
      (case o3 => omega)
      (case o4 => omega)
      (case o5 => omega)
      (case o6 => k_all)
      (case hr => (intro z h1 h2; simp only [List.contains_cons, List.contains_nil, Bool.or_false, Bool.or_eq_false_iff, beq_eq_false_iff_ne, ne_eq] at h2; simp [h1, h2, kstB]))
    case turn =>
      clear lF' lN'
      intro c u2 h8 tk8 hf8 hp8 F8 N8
      obtain ⟨rest8, tok8, ba, bv, bn, done, rem⟩ := c
      obtain ⟨hbs, hblt⟩ := hf8
      obtain ⟨hdr, hrest, hrlen⟩ := hp8
      dsimp only [AllLt, Ist.led] at *
      rcases hrest with ⟨hy0, rfl⟩ | ⟨hy1, rfl⟩
      · k_with_none
        have g1 : (Str.ofString "Allow:" != Str.ofString "") = true := by decide +kernel
        have g2 : (Str.ofString "Allow:" != Str.ofString "Allow:") = false := by decide +kernel
        k_with "ite" => first | refine if_yes g1 ?_ | refine if_no g2 ?_
        try k_fold
        k_steps
        exact ⟨⟨_, rfl⟩, by rw [hy0] at hdr; rw [hy0]; exact (List.append_eq_nil_iff.mp hdr.symm).1⟩
      · skip
        cases rem with
        | nil =>
          k_with_none
          have g1 := nil_ne
          k_with "ite" => first | refine if_no g1 ?_
          try k_fold
          k_steps
          exact ⟨⟨_, rfl⟩, by rw [hdr, List.append_nil]⟩
        | cons y rem =>
          k_with_none
          have g1 := tail_ne y rem
          have g2 := tail_allow y rem
          have hylen : y.length ≤ 16384 := by
            have h1 : y ∈ ys := by rw [hdr]; simp
            rw [← hys] at h1
            obtain ⟨j, _, rfl⟩ := List.mem_map.mp h1
            exact tk_len ns j
          have hbl : bv.length ≤ 100 := by
            have h1 := hbs.length
            have h2 : (kidsDown ns k).length = ys.length := by rw [kids_rev ns hk04.1 hk04.2, List.length_reverse, ← hys, List.length_map]
            rw [hdr, List.length_append] at h2
            rw [List.length_reverse] at h1
            omega
          k_with "ite" => first | refine if_yes g1 ?_ | refine if_yes g2 ?_ | (refine tail_ite y rem (fun z zs hz => ?_) (fun hz => ?_); (subst hz; have g3 := tail_lt y z zs; have g4 := tail_nl y z zs)) | refine if_no (tail_nl _ _ _) ?_
          k_with "call ref" => (k_dflt (refine' con_use (p257_con _ _ _ _ _ _ y.cps.toList (tailL rem) (Nat.le_trans hrlen (by decide)) (tail_reply y rem)) ?k1 ?k2 ?k3 ?k4 ?k5 ?kK ?kd ?ku trivial ?_; (case k1 => k_asm); (case k2 => k_asm); (case k3 => k_asm); (case k4 => k_asm); (case k5 => k_asm); (case kK => exact rfl); (case kd => ktr_room); (case ku => ktr_units)); intro r9 h9 tk9 F9 N9 st9 hp9; clear st9; (obtain ⟨t9, rfl⟩ := hp9); (rw [mk_list]); (try dsimp only); (try k_fold))
          k_with "storeName" => first | rw [rule_length] | rw [tail_next]
          k_with "binaryOp Add ref ref" => (k_dflt (refine' cat_K (vs := [.str y _]) (ws := bv) ?cF ?cN ?cA ?cB ?cZ ?_; (case cF => k_asm); (case cN => k_asm); (case cA => k_mem); (case cB => k_mem); (case cZ => (rw [PySem.sizeLine_eq]; simp only [List.length_cons, List.length_nil]; omega))); intro D' h' F' N' l1; (try k_lt l1))
          try k_fold
          k_steps
          · exact inner_end (by assumption) (by assumption) (by assumption) hbs hdr hy1 hrlen rfl rfl (by intro z h1 h2 h3; simp only [List.contains_cons, List.contains_nil, Bool.or_false, Bool.or_eq_false_iff, beq_eq_false_iff_ne, ne_eq] at h3; simp [h1, h2, h3, kstB])
          · subst hz
            exact inner_end (by assumption) (by assumption) (by assumption) hbs hdr hy1 hrlen rfl rfl (by intro z h1 h2 h3; simp only [List.contains_cons, List.contains_nil, Bool.or_false, Bool.or_eq_false_iff, beq_eq_false_iff_ne, ne_eq] at h3; simp [h1, h2, h3, kstB])
end
end Mine
namespace Mine
theorem useNumbers {w : World} {mean : ExcName → Option Value} {mg mb : Str → Option Value} {l : Addr} {vs : List Value} {ns : List Int}
    {dp un : Nat} {gd : Option (List Code)} {cn : Str} {cs : Scope} {a : Addr} {ccd : Value} {cl : List (Str × Addr)} {outer : List Env} {A₀ : Around} {base h₀ : Heap} {L : Addr} {m : Str → Option Value} {s : Shared} {Q E : Value → Shared → Prop} {news : List (Addr × Obj)}
    (hI : IntsAre vs ns) (hlen : ns.length ≤ 63) (hm : s.heap.IsList l vs.toArray)
    (B : Below A₀ base outer h₀) (F : Fr h₀ L s.heap m) (X : (hd.heap_39 w.params).In h₀) (N : News h₀ L s.heap news) (T : Top hd.view_39 (looseW hd.view_39 []) mean mg mb h₀) (hk : cs.kind = .function) (hd : dp + 1 < recursionLimit) (hu : un + 8 * 1 < cLine)
    (ret : ∀ D ws ms n h' tk', IntsAre ws ms → ms.length = 5 → Fr h₀ L h' m → News h₀ L h' ((D, W.listOf (List.toArray ws) n) :: news) → Q (.ref D) { s with heap := h', toks := tk' }) :
    wpAny (model PySem.Challenge.rw_ny0094_01.row.prog w) (ktrTop dp un gd cn cs L a ccd cl outer) (call (.ref 121) [.ref l]) Q E s := by
  refine con_use (numbers_con2 w mean mg mb l vs ns hI hlen) B F X N T hk hd hu hm fun r h' tk' F' N' st hp => ?_
  obtain ⟨D, ws, ms, n, rfl, hD, hn, hI', h5⟩ := hp
  refine ret D ws ms n h' tk' hI' h5 F' (fun q hq => ?_)
  rcases List.mem_cons.mp hq with rfl | hq
  · refine ⟨hD, fun e => ?_, ?_⟩
    · obtain ⟨oL, _, _, hL, _⟩ := F.ns
      have e' : D = L := e
      rw [e', hL] at hn
      cases hn
    · rcases hh : h₀.get? D with _ | o
      · rfl
      · rw [F.keep _ _ hh] at hn
        cases hn
  · exact N' q hq
theorem eqv_same (R : List Dat) (h : ∀ d ∈ R, kqdOk 8 d = true) : PyData.eqv (.list (kqdPs R)) (.list (kqdPs R)) = true := by
  have q := kqd_eqv 9 (.list R) (.list R) 9 (by simpa [kqdOk] using h) (by simpa [kqdOk] using h)
  rw [kqdP] at q
  exact q.mpr rfl
theorem shaped_rows (R : List Dat) (h : ∀ d ∈ R, kqdOk 8 d = true) : SeqAt.shaped (.list (kqdPs R)) = true := by
  have la := kqd_lay 9 (.list R) (by simpa [kqdOk] using h)
  rw [kqdP] at la
  unfold SeqAt.shaped
  rw [la.1, Bool.true_and]
  exact decide_eq_true (Nat.le_trans la.2 (by decide))
theorem run0 (ns : List Int) : ∃ R, Run ns [] [0] R := run_exists ns (wt [0]) [] [0] (Nat.le_refl _) (by decide)
end Mine
open Mine in
theorem PySem.Challenge.cw_ny0094_01_holds : PySem.Challenge.rw_ny0094_01.Holds := by
  refine Mine.hd ?_
  k_go0
  all_goals try k_fold
  k_with_none
  k_with "call ref" => refine Mine.stop_here ?_
  k_with "compareOp Eq" => refine Mine.stop_here ?_
  k_steps
  unfold StopAt
  rename Fr _ _ _ _ => lF
  rename News _ _ _ _ => lN
  rename IntsAre _ _ => hI
  rename Heap.IsList _ _ _ => hLs
  k_dflt (refine' useNumbers hI ?ul ?up ?ub lF ?ux lN ?ut ?uk ?ud ?uu ?_)
  (case ul => omega)
  (case up => exact hLs.at fun o e => lF.keep _ _ e)
  (case ub => k_asm)
  (case ux => k_asm)
  (case ut => k_asm)
  (case uk => exact rfl)
  (case ud => first | ktr_room | decide)
  (case uu => first | ktr_units | decide)
  clear lN lF
  intro D ws ms n h9 tk9 hI' h5 F9 N9
  try dsimp only
  try k_fold
  obtain ⟨R, hR⟩ := run0 ms
  have hok := hR.ok (fun _ h => nomatch h)
  k_steps
  unfold StopAt
  rename Fr _ _ _ _ => lF
  rename News _ _ _ _ => lN
  k_dflt (refine' con_use (written_con _ _ _ _ _ _ ms hI' h5) ?vb lF ?vx lN ?vt ?vk ?vd ?vu ?vp ?_)
  (case vp => exact isList_of_news lN (.head _))
  (case vb => k_asm)
  (case vx => k_asm)
  (case vt => k_asm)
  (case vk => exact rfl)
  (case vd => first | ktr_room | decide)
  (case vu => first | ktr_units | decide)
  clear lN lF
  intro r1 h1 tk1 F1 N1 st1 p1
  clear st1
  obtain ⟨t1, rfl⟩ := p1
  try dsimp only
  try k_fold
  k_steps
  unfold StopAt
  rename Fr _ _ _ _ => lF
  rename News _ _ _ _ => lN
  k_dflt (refine' con_use (read_con _ _ _ _ ms _ R hR) ?wb lF ?wx lN ?wt ?wk ?wd ?wu ?wp ?_)
  (case wp => trivial)
  (case wb => k_asm)
  (case wx => k_asm)
  (case wt => k_asm)
  (case wk => exact rfl)
  (case wd => first | ktr_room | decide)
  (case wu => first | ktr_units | decide)
  clear lN lF
  intro r2 h2 tk2 F2 N2 st2 p2
  clear st2
  obtain ⟨as2, q2⟩ := p2
  try dsimp only
  try k_fold
  k_steps
  unfold StopAt
  rename Fr _ _ _ _ => lF
  rename News _ _ _ _ => lN
  k_dflt (refine' con_use (drawn_con _ _ _ _ _ _ ms hI' h5 R hR) ?xb lF ?xx lN ?xt ?xk ?xd ?xu ?xp ?_)
  (case xp => exact isList_of_news lN (.head _))
  (case xb => k_asm)
  (case xx => k_asm)
  (case xt => k_asm)
  (case xk => exact rfl)
  (case xd => first | ktr_room | decide)
  (case xu => first | ktr_units | decide)
  clear lN lF
  intro r3 h3 tk3 F3 N3 st3 p3
  obtain ⟨as3, q3⟩ := p3
  try dsimp only
  try k_fold
  k_steps
  unfold StopAt
  k_dflt (refine' eq_dataH (Reads.keeps st3 q2) q3 (shaped_rows R hok) (shaped_rows R hok) ?yu ?_)
  (case yu => first | ktr_units | decide)
  rw [eqv_same R hok]
  k_steps
