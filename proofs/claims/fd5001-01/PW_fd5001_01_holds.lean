import PyProof.Rows.All
import Wide.All
import OpenK.AllK
import Wide.FinOn
import KE.KDictLaws
import PyProof.IsiH_dict
import PyProof.IsiH_set
import PyProof.TupleOfSeq
import PyProof.EqKinds
import PyProof.EqAt
import PyProof.NeKinds
import PyProof.SliceMore
import Open.Tops
import PySem.Challenge.RW_fd5001_01
open PySem PySem.W PyProof.Rows
set_option Elab.async false
set_option maxRecDepth 100000
set_option maxHeartbeats 1000000
set_option linter.unusedVariables false
namespace Mine
/-! small sets of ints: the table as it really lies -/
def subs : List Int → List (List Int)
  | [] => [[]]
  | x :: r => subs r ++ (subs r).map (x :: ·)
def eight : List Int := [0, 1, 2, 3, 4, 5]
def small : List (List Int) := subs eight
def insE : List Int → Int → List Int
  | [], i => [i]
  | x :: r, i => if i < x then i :: x :: r else if i = x then x :: r else x :: insE r i
def plc (l : List Int) : Array Nat := (l.map Int.toNat).toArray
theorem below_new : ∀ l ∈ small, ∀ k ∈ eight, k ∉ l → (((plc l)[SetTable.below (plc l) k.toNat]? == some k.toNat) = false ∧ SetTable.insertAt (plc l) (SetTable.below (plc l) k.toNat) k.toNat = plc (insE l k)
    ∧ insE l k = l.take (SetTable.below (plc l) k.toNat) ++ k :: l.drop (SetTable.below (plc l) k.toNat) ∧ SetTable.below (plc l) k.toNat ≤ l.length) := by decide +kernel
theorem insE_small : ∀ l ∈ small, ∀ k ∈ eight, insE l k ∈ small ∧ (k ∉ l → (insE l k).length = l.length + 1) ∧ (k ∈ l → insE l k = l) ∧ l.length ≤ 8 := by decide +kernel
theorem below_walk : ∀ l ∈ small, ∀ i ∈ List.range l.length, SetTable.below (plc l) ((plc l).getD i 0 + 1) = i + 1 := by decide +kernel
theorem below_zero : ∀ l ∈ small, SetTable.below (plc l) 0 = 0 := by decide +kernel
theorem hash_small : ∀ k ∈ eight, hashInt k = k ∧ SetTable.bits k % 8 = k.toNat ∧ SetTable.bits k % 32 = k.toNat := by decide +kernel
theorem small_mem : ∀ l ∈ small, ∀ k ∈ l, k ∈ eight := by decide +kernel
theorem small_nodup : ∀ l ∈ small, l.Nodup := by decide +kernel
theorem laid_small : ∀ l ∈ small, l.length = 5 → (SetTable.laid 31 0 0 true true l.toArray) = some ({ mask := 31, place := plc l, dummies := #[], finger := 0, led := true, moves := 0, plain := true }, Array.range 5) := by decide +kernel
def EntR (es : List (Int × Value)) (l : List Int) : Prop := es.map (·.1) = l ∧ ∀ e ∈ es, ∃ t, e.2 = Value.int e.1 t
structure SmT (w : World) (t : SetTable) (l : List Int) : Prop where
  place : t.place = plc l
  dum : t.dummies = #[]
  mask : (t.mask = 7 ∧ l.length ≤ 4) ∨ t.mask = 31
  plain : t.plain = true
  led : w.params.followText "set-order" = true ∨ t.led = true
def SetSm (w : World) (h : Heap) (a : Addr) (l : List Int) : Prop := l ∈ small ∧ ∃ ob es ep t, h.get? a = some ob ∧ ob.ExactSet ∧ ob.data = .set es ep t ∧ EntR es.toList l ∧ SmT w t l
theorem EntR.length {es : List (Int × Value)} {l : List Int} (h : EntR es l) : es.length = l.length := by rw [← h.1, List.length_map]
theorem small_len {l : List Int} (h : l ∈ small) : l.length ≤ 8 := (insE_small l h 0 (by decide)).2.2.2
section
variable {prog : Program} {w : World} {A : Around} {E : Value → Shared → Prop} {s : Shared}
theorem EntR.elems {es : List (Int × Value)} {l : List Int} (h : EntR es l) (hl : l ∈ small) : ElemsOf (intKind prog w) es := by
  intro e he
  obtain ⟨t, ht⟩ := h.2 e he
  have hm : e.1 ∈ l := by rw [← h.1]; exact List.mem_map_of_mem he
  refine ⟨⟨e.1, ?_, (hash_small _ (small_mem l hl _ hm)).1.symm⟩, by rw [ht]; rfl⟩
  rw [ht]; simp [intKind, Value.isInt]
theorem EntR.mem {es : List (Int × Value)} {l : List Int} (h : EntR es l) (k : Int) : decide (k ∈ l) = true ↔ ∃ e ∈ es, (intKind prog w).is k e.2 = true := by
  rw [decide_eq_true_eq, ← h.1, List.mem_map]
  constructor
  · rintro ⟨e, he, rfl⟩
    obtain ⟨t, ht⟩ := h.2 e he
    exact ⟨e, he, by rw [ht]; simp [intKind, Value.isInt]⟩
  · rintro ⟨e, he, hi⟩
    obtain ⟨t, ht⟩ := h.2 e he
    rw [ht] at hi
    exact ⟨e, he, by simp [intKind, Value.isInt] at hi; exact hi⟩
theorem SmT.fits {t : SetTable} {l : List Int} (h : SmT w t l) (hl : l ∈ small) : t.fits l.length = true := by
  have h1 : t.place.size = l.length := by rw [h.place]; simp [plc]
  have h2 := small_len hl
  simp only [SetTable.fits, SetTable.fill, h.dum, h1, Bool.and_eq_true, beq_iff_eq, decide_eq_true_eq, Array.size_empty]
  refine ⟨trivial, ?_⟩
  rcases h.mask with ⟨m, b⟩ | m <;> omega
theorem SetSm.setOf {h : Heap} {a : Addr} {l : List Int} (x : SetSm w h a l) : h.SetOf (intKind prog w) a (fun k => decide (k ∈ l)) l.length := by
  obtain ⟨hl, ob, es, ep, t, p, hx, hd, he, ht⟩ := x
  have hsz : es.size = l.length := by rw [← Array.length_toList, he.length]
  have := small_len hl
  exact ⟨ob, es, ep, t, p, hx, hd, he.elems hl, he.mem, by unfold scanBound; omega, by rw [hsz]; exact ht.fits hl, hsz⟩
theorem newSet_small {Q : Value → Shared → Prop}
    (h : ∀ o, SetSm w (s.heap.push o) s.heap.objs.size [] → Q (.ref s.heap.objs.size) { s with heap := s.heap.push o }) :
    wpAny (model prog w) A (newSet (.type "set")) Q E s := by
  unfold newSet setsByText
  refine wpAny_bind (wpAny_bind (wpAny_askSetting (wpAny_pure ?_)))
  dsimp only
  simp only [newObj]
  refine wpAny_bind (wpAny_alloc (wpAny_pure (h _ ?_)))
  refine ⟨by decide, _, #[], 0, _, Heap.get?_push_size _ rfl, ⟨rfl, rfl, rfl⟩, rfl, ⟨rfl, fun e he => by simp at he⟩, ⟨rfl, rfl, .inl ⟨rfl, by simp⟩, rfl, ?_⟩⟩
  show w.params.followText "set-order" = true ∨ (!w.params.followText "set-order") = true
  cases w.params.followText "set-order" <;> simp
/-- laying a new one -/
theorem layNew_small {t : SetTable} {es : Array (Int × Value)} {l : List Int} {k : Int} {tk : Tok} (hl : l ∈ small) (hk : k ∈ eight) (hn : k ∉ l) (he : EntR es.toList l) (ht : SmT w t l) :
    ∃ es' t', layNew t es k (.int k tk) = (es', t', false, false) ∧ EntR es'.toList (insE l k) ∧ t'.place = plc (insE l k) ∧ t'.dummies = #[] ∧ t'.mask = t.mask ∧ t'.plain = true ∧ t'.led = t.led := by
  obtain ⟨h1, h2, h3, h4⟩ := below_new l hl k hk hn
  have hslot : t.slot k.toNat = .empty := by
    unfold SetTable.slot
    simp only [ht.place, h1, ht.dum]
    rfl
  have hstart : t.probeStart k = { j := k.toNat, more := SetTable.runEnd t.mask k.toNat - k.toNat, i := k.toNat, perturb := SetTable.bits k, dummy := none } := by
    have hb := hash_small k hk
    unfold SetTable.probeStart
    rcases ht.mask with ⟨m, _⟩ | m
    · simp only [m, hb.2.1]
    · simp only [m, hb.2.2]
  have hfree : t.freeSlot k = some (k.toNat, false) := by
    unfold SetTable.freeSlot SetTable.probe
    rw [hstart]
    have : 10 * SetTable.turns t.mask = (10 * SetTable.turns t.mask - 1) + 1 := by
      unfold SetTable.turns; omega
    rw [this]
    simp only [SetTable.probe.go, hslot, Option.getD_none, Option.isSome_none]
  have hput : t.put k.toNat = ({ t with place := plc (insE l k) }, SetTable.below (plc l) k.toNat) := by
    unfold SetTable.put
    simp only [ht.place, h2, ht.dum]
    obtain ⟨m, p, d, f, ld, mv, pl⟩ := t
    have hd : d = #[] := ht.dum
    subst hd
    rfl
  have hes : EntR (SetTable.insertAt es (SetTable.below (plc l) k.toNat) (k, Value.int k tk)).toList (insE l k) := by
    rw [SetTable.toList_insertAt]
    refine ⟨?_, fun e hm => ?_⟩
    · rw [h3, List.map_append, List.map_cons, List.map_take, List.map_drop, he.1]
    · rcases List.mem_append.mp hm with hm | hm
      · exact he.2 e (List.mem_of_mem_take hm)
      · rcases List.mem_cons.mp hm with rfl | hm
        · exact ⟨tk, rfl⟩
        · exact he.2 e (List.mem_of_mem_drop hm)
  have hlen := (insE_small l hl k hk).2.1 hn
  have h8 := (insE_small l hl k hk).2.2.2
  have hsm := (insE_small l hl k hk).1
  have hfit : ({ t with place := plc (insE l k) } : SetTable).fits (SetTable.insertAt es (SetTable.below (plc l) k.toNat) (k, Value.int k tk)).size = true := by
    rw [← Array.length_toList, hes.length]
    simp only [SetTable.fits, SetTable.fill, ht.dum, Bool.and_eq_true, beq_iff_eq, decide_eq_true_eq, Array.size_empty]
    have : (plc (insE l k)).size = (insE l k).length := by simp [plc]
    rw [this]
    refine ⟨rfl, ?_⟩
    rcases ht.mask with ⟨m, b⟩ | m <;> omega
  refine ⟨_, { t with place := plc (insE l k) }, ?_, hes, rfl, ht.dum, rfl, ht.plain, rfl⟩
  unfold layNew
  rw [hfree]
  simp only [hput, hfit, SetTable.orStandIn, if_true, Bool.not_true]
theorem relay_small {t : SetTable} {es : Array (Int × Value)} {l : List Int} (hl : l ∈ small) (h5 : l.length = 5) (he : EntR es.toList l) (hp : t.place = plc l) (hm : t.mask = 7) :
    ∃ t', relayAll t es (SetTable.grown es.size) = (es, t', false) ∧ t'.place = plc l ∧ t'.dummies = #[] ∧ t'.mask = 31 ∧ t'.plain = t.plain ∧ t'.led = t.led := by
  have hsz : es.size = 5 := by rw [← Array.length_toList, he.length, h5]
  have hmap : es.map (·.1) = l.toArray := by
    rw [← he.1]
    cases es; simp
  have hlaid := laid_small l hl h5
  have hab : SetTable.sizeAbove (SetTable.grown es.size) = 32 := by rw [hsz]; decide
  have key : SetTable.laid 31 t.finger (t.movedTo 31) t.led t.plain l.toArray = some ({ mask := 31, place := plc l, dummies := #[], finger := t.finger, led := t.led, moves := t.movedTo 31, plain := t.plain }, Array.range 5) := by
    unfold SetTable.laid at hlaid ⊢
    cases e : SetTable.layClean 31 l.toArray with
    | none => rw [e] at hlaid; cases hlaid
    | some ow =>
      rw [e] at hlaid
      have h' := Option.some.inj hlaid
      have h1 := congrArg (fun r => r.1.place) h'
      have h2 := congrArg (fun r => r.2) h'
      dsimp only at h1 h2
      show some (_, _) = _
      rw [← h1, ← h2]
  have hrel : t.relaid (es.map (·.1)) (SetTable.grown es.size) = some ({ mask := 31, place := plc l, dummies := #[], finger := t.finger, led := t.led, moves := t.movedTo 31, plain := t.plain }, Array.range 5) := by
    unfold SetTable.relaid
    rw [hab, hmap]; exact key
  refine ⟨{ mask := 31, place := plc l, dummies := #[], finger := t.finger, led := t.led, moves := t.movedTo 31, plain := t.plain }, ?_, rfl, rfl, rfl, rfl, rfl⟩
  unfold relayAll
  rw [hrel]
  dsimp only
  have hcov : coversAll (Array.range 5) es.size = true := by rw [hsz]; decide
  have hfm : (Array.range 5).filterMap (es[·]?) = es := by
    have := filterMap_getElem?_range es
    rw [hsz] at this
    apply Array.ext'
    rw [Array.toList_filterMap, Array.toList_range]
    exact this
  rw [hcov, hfm]
  have hf : ({ mask := 31, place := plc l, dummies := #[], finger := t.finger, led := t.led, moves := t.movedTo 31, plain := t.plain } : SetTable).fits es.size = true := by
    rw [hsz]
    have : (plc l).size = l.length := by simp [plc]
    simp only [SetTable.fits, SetTable.fill, this, h5]
    decide
  rw [hf]; rfl
theorem setAddHashed_small {a : Addr} {l : List Int} {k : Int} {tk : Tok} {Q : Bool → Shared → Prop} (hS : SetSm w s.heap a l) (hk : k ∈ eight)
    (h : ∀ h' b, Heap.SameBut a s.heap h' → SetSm w h' a (insE l k) → Q b { s with heap := h' }) :
    wpAny (model prog w) A (setAddHashed a (.int k tk) k) Q E s := by
  obtain ⟨hl, o, es, ep, t, ho, hex, hd, he, ht⟩ := id hS
  have hsz : es.size = l.length := by rw [← Array.length_toList, he.length]
  have h8 := small_len hl
  have hb : es.size < scanBound := by unfold scanBound; omega
  have hel : ElemsOf (intKind prog w) es.toList := he.elems hl
  have hf : t.fits es.size = true := by rw [hsz]; exact ht.fits hl
  have hkey : (intKind prog w).is k (.int k tk) = true := by simp [intKind, Value.isInt]
  have hh : (intKind prog w).hash k = k := (hash_small k hk).1
  obtain ⟨i1, i2, i3, i4⟩ := insE_small l hl k hk
  unfold setAddHashed setAddHashedIn
  refine wpAny_holding (wpAny_bind (wpAny_setState_of ho hd hf ?_))
  dsimp only
  rw [byScan_of (knd := intKind prog w) rfl hb hel]
  simp only [↓reduceIte]
  unfold setAddByScan
  refine wpAny_bind (wpAny_bind (wpAny_rule ?_))
  have hscan : ∀ {Q : ScanMet → Shared → Prop}, Q (match es.toList.findIdx? (fun e => (intKind prog w).is k e.2) with | some j => .found (0 + j) | none => .absent) s → wpAny (model prog w) A (setScan a (.int k tk) k true es) Q E s := by
    intro Q hq
    have := wpAny_setScan_of (knd := intKind prog w) (A := A) (E := E) (adding := true) hkey ho hd hf hel hq
    rw [hh] at this; exact this
  refine wpAny_bind (hscan ?_)
  cases hr : List.findIdx? (fun e => (intKind prog w).is k e.2) es.toList with
  | some j =>
    dsimp only
    obtain ⟨hj, hpj, _⟩ := List.findIdx?_eq_some_iff_getElem.mp hr
    have hm : k ∈ l := by
      have := (he.mem (prog := prog) (w := w) k).mpr ⟨es.toList[j], List.getElem_mem hj, hpj⟩
      simpa using this
    refine wpAny_pure (wpAny_pure ?_)
    have e : s = { s with heap := s.heap } := by cases s; rfl
    rw [e]
    exact h s.heap _ (Heap.SameBut.refl a s.heap) (by rw [i3 hm]; exact hS)
  | none =>
    dsimp only
    have hm : k ∉ l := fun hm => by
      obtain ⟨e, he', hp⟩ := (he.mem (prog := prog) (w := w) k).mp (by simpa using hm)
      have := List.findIdx?_eq_none_iff.mp hr e he'
      rw [hp] at this; exact Bool.noConfusion this
    obtain ⟨es', t', hL, he', hp', hd', hm', hpl, hled⟩ := layNew_small (tk := tk) hl hk hm he ht
    rw [hL]
    dsimp only
    refine wpAny_bind (wpAny_pure ?_)
    have hsz' : es'.size = l.length + 1 := by rw [← Array.length_toList, he'.length, i2 hm]
    rw [show ∀ (x : Value), x = .int k tk → hashByValue 8 x = pure (plainKind x) from fun x e => hashByValue_scannable 8 (by rw [e]; rfl)] <;> try rfl
    rw [hpl]
    simp only [if_true]
    refine wpAny_bind (wpAny_pure ?_)
    have hpk : plainKind (.int k tk) = true := rfl
    rw [hpk]
    simp only [if_true]
    have hg : (s.heap.update a (Obj.putSet es' t')).get? a = some { o with data := .set es' (ep + 1) t' } := by
      have := Heap.get?_update_self (Obj.putSet es' t') ho (by rw [putSet_of es' t' hd]; rfl)
      rw [putSet_of es' t' hd] at this; exact this
    have hsb := Heap.SameBut.update s.heap a (Obj.putSet es' t')
    refine wpAny_bind (wpAny_storeSet_of ho hd ?_ (by rw [hsz', sizeLine_eq]; omega))
    have hfill : t'.fill = l.length + 1 := by
      unfold SetTable.fill
      rw [hp', hd']
      simp [plc, i2 hm]
    by_cases h5 : t.mask = 7 ∧ l.length = 4
    · have hful : (!false && t'.tooFull) = true := by
        simp only [SetTable.tooFull, hfill, hm', h5.1, h5.2]; decide
      rw [hful]
      simp only [if_true]
      obtain ⟨t'', hR, rp, rd, rm, rpl, rl⟩ := relay_small (t := t') i1 (by rw [i2 hm, h5.2]) he' hp' (by rw [hm', h5.1])
      rw [hR]
      dsimp only
      refine wpAny_bind (wpAny_pure ?_)
      have hg2 : ((s.heap.update a (Obj.putSet es' t')).update a (Obj.putSet es' t'')).get? a = some { o with data := .set es' (ep + 1 + 1) t'' } := by
        have := Heap.get?_update_self (Obj.putSet es' t'') hg (by rw [putSet_of es' t'' rfl]; rfl)
        rw [putSet_of es' t'' rfl] at this; exact this
      refine wpAny_bind (wpAny_storeSet_of hg rfl ?_ (by rw [hsz', sizeLine_eq]; omega))
      refine wpAny_pure (wpAny_pure ?_)
      refine h _ _ (hsb.trans (Heap.SameBut.update _ a _)) ⟨i1, _, es', _, t'', hg2, hex, rfl, he', rp, rd, .inr rm, rpl.trans hpl, ?_⟩
      rw [rl, hled]; exact ht.led
    · have hful : (!false && t'.tooFull) = false := by
        simp only [SetTable.tooFull, hfill, hm']
        rcases ht.mask with ⟨m, b⟩ | m
        · have : l.length ≠ 4 := fun e => h5 ⟨m, e⟩
          simp [m]; omega
        · simp [m]; omega
      rw [hful]
      simp only [Bool.false_eq_true, if_false]
      refine wpAny_pure (wpAny_pure ?_)
      refine h _ _ hsb ⟨i1, _, es', _, t', hg, hex, rfl, he', hp', hd', ?_, hpl, ?_⟩
      · rw [i2 hm]
        rcases ht.mask with ⟨m, b⟩ | m
        · have : l.length ≠ 4 := fun e => h5 ⟨m, e⟩
          exact .inl ⟨by rw [hm', m], by omega⟩
        · exact .inr (by rw [hm', m])
      · rw [hled]; exact ht.led
theorem call_sadd_small {a : Addr} {l : List Int} {k : Int} {tk : Tok} {Q : Value → Shared → Prop} (hS : SetSm w s.heap a l) (hk : k ∈ eight)
    (h : ∀ h', Heap.SameBut a s.heap h' → SetSm w h' a (insE l k) → Q .none { s with heap := h', toks := s.toks + 1 }) :
    wpAny (model prog w) A (call (.builtin "set.add") [.ref a, .int k tk]) Q E s := by
  refine wpAny_call_entry F.slot_set_add (hS.setOf (prog := prog)).typeIs F.entry_set_add ?_ (F.args_set_add_2 _ _)
  unfold Builtin.«set.add» Builtin.Frozenset.oneOther
  simp only [List.isEmpty_nil, bind_assoc]
  unfold Builtin.Frozenset.addrOf setAdd
  refine wpAny_bind (wpAny_pure ?_)
  try dsimp only
  refine wpAny_bind (wpAny_pure ?_)
  try dsimp only
  refine wpAny_bind (wpAny_holding ?_)
  have hkey : (intKind prog w).is k (.int k tk) = true := by simp [intKind, Value.isInt]
  refine wpAny_bind ((intKind prog w).pyHash hkey ?_)
  rw [show (intKind prog w).hash k = k from (hash_small k hk).1]
  refine setAddHashed_small (s := { s with toks := s.toks + 1 }) hS hk fun h' b hsb hS' => ?_
  show wpAny _ _ (ret Value.none) _ _ _
  exact wpAny_pure ⟨_, rfl, h h' hsb hS'⟩
end
end Mine

open PySem PySem.W PyProof.Rows
set_option Elab.async false
set_option maxRecDepth 100000
set_option maxHeartbeats 1000000
set_option linter.unusedVariables false
namespace Mine
/-! a small set walked over -/
theorem owner_si : Manifest.owners.lookup (String.ofList ['r', 'o', 't', 'a', 'r', 'e', 't', 'i', '_', 't', 'e', 's'].reverse) = some Manifest.sig_set_iterator := by kernel_rfl
theorem slot_si_next : Slot "set_iterator" "__next__" "set_iterator.__next__" :=
  .of (owner := "set_iterator") (n := "__next__") (by rw [typeLookup_type, builtinLookup_eq_fast]; kernel_rfl) (by decide +kernel) (by decide +kernel) (by decide +kernel)
    (by first | exact .inl (by decide +kernel) | exact .inr (by decide +kernel)) (by rw [isSubtype_type]; kernel_rfl)
theorem entry_si_next : entryFor table "set_iterator.__next__" = some Builtin.«set_iterator.__next__» := entryFor_of_tree (by kernel_rfl)
theorem args_si_next (a : Value) : argsOk "set_iterator.__next__" ⟨[a], []⟩ := by
  unfold argsOk; rw [signature?_of (id := "set_iterator.__next__") (n := ['_', '_', 't', 'x', 'e', 'n', '_', '_']) (o := ['r', 'o', 't', 'a', 'r', 'e', 't', 'i', '_', 't', 'e', 's']) (by kernel_rfl) owner_si]; kernel_rfl
theorem slot_si_iter : Slot "set_iterator" "__iter__" "set_iterator.__iter__" :=
  .of (owner := "set_iterator") (n := "__iter__") (by rw [typeLookup_type, builtinLookup_eq_fast]; kernel_rfl) (by decide +kernel) (by decide +kernel) (by decide +kernel)
    (by first | exact .inl (by decide +kernel) | exact .inr (by decide +kernel)) (by rw [isSubtype_type]; kernel_rfl)
theorem entry_si_iter : entryFor table "set_iterator.__iter__" = some Builtin.«dict_keyiterator.__iter__» := entryFor_alias (id' := "dict_keyiterator.__iter__") (by kernel_rfl) rfl (by decide +kernel) (by kernel_rfl)
theorem args_si_iter (a : Value) : argsOk "set_iterator.__iter__" ⟨[a], []⟩ := by
  unfold argsOk; rw [signature?_of (id := "set_iterator.__iter__") (n := ['_', '_', 'r', 'e', 't', 'i', '_', '_']) (o := ['r', 'o', 't', 'a', 'r', 'e', 't', 'i', '_', 't', 'e', 's']) (by kernel_rfl) owner_si]; kernel_rfl
theorem entry_set_iter : entryFor table "set.__iter__" = some Builtin.«frozenset.__iter__» := entryFor_alias (id' := "frozenset.__iter__") (by kernel_rfl) rfl (by decide +kernel) (by kernel_rfl)

theorem pick_go {α : Type} (next : Nat → Nat) : ∀ (n k : Nat) (xs : List α) (out : Array α), xs.length = n → (pickOrder.go next n k xs out).toList.Perm (out.toList ++ xs)
  | 0, k, xs, out, h => by
    obtain rfl := List.length_eq_zero_iff.mp h
    simp [pickOrder.go]
  | n + 1, k, xs, out, h => by
    have hlt : next k % xs.length < xs.length := Nat.mod_lt _ (by omega)
    simp only [pickOrder.go, List.getElem?_eq_getElem hlt]
    refine (pick_go next n (k + 1) _ _ (by rw [List.length_eraseIdx_of_lt hlt]; omega)).trans ?_
    rw [Array.toList_push, List.append_assoc]
    refine List.Perm.append_left _ ?_
    rw [List.singleton_append]
    rw [List.eraseIdx_eq_take_drop_succ]
    have e : xs = xs.take (next k % xs.length) ++ xs[next k % xs.length] :: xs.drop (next k % xs.length + 1) := by
      rw [← List.drop_eq_getElem_cons hlt, List.take_append_drop]
    exact List.perm_middle.symm.trans (by rw [← e])
theorem pick_perm {α : Type} (next : Nat → Nat) (xs : Array α) : (pickOrder next xs).toList.Perm xs.toList := by
  have := pick_go next xs.size 0 xs.toList #[] (by simp)
  simpa [pickOrder] using this
/-- the order in which a set's entries come -/
def setOrd (w : World) (a : Addr) (ep : Nat) (es : Array (Int × Value)) : Array (Int × Value) :=
  if w.params.followText "set-order" then pickOrder (w.params.setOrder a ep) es else es
theorem setOrd_perm (w : World) (a : Addr) (ep : Nat) (es : Array (Int × Value)) : (setOrd w a ep es).toList.Perm es.toList := by
  unfold setOrd; split
  · exact pick_perm _ _
  · exact .rfl
abbrev IsSetIter (h : Heap) (it a : Addr) (slot i n ep : Nat) : Prop := h.get? it = some { cls := .type "set_iterator", dict := none, data := .fields #[rawInt slot, rawInt i, .ref a, rawInt n, rawInt ep], slots := #[] }
def slotAt (w : World) (l : List Int) (i : Nat) : Nat := if w.params.followText "set-order" then 0 else if i = 0 then 0 else (plc l).getD (i - 1) 0 + 1
section
variable {prog : Program} {w : World} {A : Around} {E : Value → Shared → Prop} {s : Shared} {a : Addr} {l : List Int} {ob : Obj} {es : Array (Int × Value)} {ep : Nat} {t : SetTable}
theorem setNext_small {i : Nat} {Q : Option (Value × Nat) → Shared → Prop} (hl : l ∈ small) (ho : s.heap.get? a = some ob) (hd : ob.data = .set es ep t) (he : EntR es.toList l) (ht : SmT w t l)
    (h : Q (((setOrd w a ep es)[i]?).map fun e => (e.2, slotAt w l (i + 1))) s) (hi : i ≤ l.length) : wpAny (model prog w) A (setNext a (slotAt w l i) i ep) Q E s := by
  have hsz : es.size = l.length := by rw [← Array.length_toList, he.length]
  have hf : t.fits es.size = true := by rw [hsz]; exact ht.fits hl
  unfold setNext
  refine wpAny_bind (wpAny_setState_of ho hd hf ?_)
  unfold setsByText
  refine wpAny_bind (wpAny_bind (wpAny_askSetting (wpAny_pure ?_)))
  dsimp only
  by_cases hb : w.params.followText "set-order" = true
  · have hb' : (model prog w).w.params.followText "set-order" = true := hb
    rw [if_pos hb', if_neg (by simp)]
    refine wpAny_bind ?_
    unfold setWalk setsByText
    refine wpAny_bind (wpAny_setState_of ho hd hf ?_)
    refine wpAny_bind (wpAny_bind (wpAny_askSetting (wpAny_pure ?_)))
    dsimp only
    rw [if_pos hb']
    refine wpAny_bind (wpAny_askSetting (wpAny_pure ?_))
    refine wpAny_pure ?_
    have e1 : setOrd w a ep es = pickOrder (w.params.setOrder a ep) es := by unfold setOrd; rw [if_pos hb]
    have e2 : ∀ j, slotAt w l j = 0 := fun j => by unfold slotAt; rw [if_pos hb]
    rw [e1, e2] at h
    rw [e2]; exact h
  · have hbf : w.params.followText "set-order" = false := by simpa using hb
    have hbf' : (model prog w).w.params.followText "set-order" = false := hbf
    rw [if_neg (by rw [hbf']; exact Bool.false_ne_true)]
    have hled : t.led = true := ht.led.resolve_left hb
    have e1 : setOrd w a ep es = es := by unfold setOrd; rw [if_neg hb]
    have e2 : ∀ j, slotAt w l j = if j = 0 then 0 else (plc l).getD (j - 1) 0 + 1 := fun j => by unfold slotAt; rw [if_neg hb]
    refine wpAny_bind (wpAny_pure ?_)
    dsimp only
    have hbel : SetTable.below t.place (slotAt w l i) = i := by
      rw [ht.place, e2]
      cases i with
      | zero => simpa using below_zero l hl
      | succ i => simpa using below_walk l hl i (by simp; omega)
    show wpAny _ _ (if (!t.plain && decide (es.size > 1)) = true then _ else _) _ _ _
    rw [ht.plain]
    rw [if_neg (by simp)]
    show wpAny _ _ ((if (!t.led && !es.isEmpty) = true then unsupported _ else pure ()) >>= _) _ _ _
    rw [hled]
    rw [if_neg (by simp)]
    refine wpAny_bind (wpAny_pure ?_)
    refine wpAny_pure ?_
    rw [hbel]
    rw [e1, e2] at h
    have hps : t.place[i]? = ((l.map Int.toNat)[i]?) := by rw [ht.place]; simp [plc]
    rw [hps]
    by_cases hlt : i < l.length
    · have h1 : es[i]? = some es[i] := by simp [hsz, hlt]
      rw [h1] at h ⊢
      have h2 : (l.map Int.toNat)[i]? = some (l[i].toNat) := by simp [hlt]
      rw [h2]
      have h3 : (plc l).getD i 0 = l[i].toNat := by simp [plc, hlt, Array.getD]
      simpa [h3] using h
    · have h1 : es[i]? = none := by simp [hsz]; omega
      rw [h1] at h ⊢
      exact h
theorem si_type {it : Addr} {slot i n : Nat} (h : IsSetIter s.heap it a slot i n ep) : s.TypeIs (.ref it) "set_iterator" := ⟨_, h, rfl⟩
theorem setEntries_small {Q : Array (Int × Value) → Shared → Prop} (hl : l ∈ small) (ho : s.heap.get? a = some ob) (hd : ob.data = .set es ep t) (he : EntR es.toList l) (ht : SmT w t l) (h : Q es s) :
    wpAny (model prog w) A (setEntries a) Q E s :=
  wpAny_setEntries_of ho hd (by rw [← Array.length_toList, he.length]; exact ht.fits hl) h
theorem si_item {it : Addr} {i : Nat} {k : Int × Value} {Q : Option Value → Shared → Prop} (hl : l ∈ small) (ho : s.heap.get? a = some ob) (hd : ob.data = .set es ep t) (he : EntR es.toList l) (ht : SmT w t l)
    (hit : IsSetIter s.heap it a (slotAt w l i) i l.length ep) (hk : (setOrd w a ep es)[i]? = some k) (hi : i < l.length)
    (hQ : ∀ h', IsSetIter h' it a (slotAt w l (i + 1)) (i + 1) l.length ep → Heap.SameBut it s.heap h' → Q (some k.2) { s with heap := h' }) :
    wpAny (model prog w) A (pyNext (.ref it)) Q E s := by
  unfold pyNext
  refine wpAny_bind (wpAny_attempt (wpAny_callSpecial?_slot (name := Str.ofString "__next__") (si_type hit) slot_si_next
    (wpAny_call_entry slot_si_next (si_type hit) entry_si_next ?_ (args_si_next _))))
  unfold Builtin.«set_iterator.__next__»
  refine wpAny_bind (wpAny_pure ?_)
  refine wpAny_bind (wpAny_fieldsOf hit rfl ?_)
  dsimp only
  refine wpAny_bind (setEntries_small hl ho hd he ht ?_)
  have hsz : es.size = l.length := by rw [← Array.length_toList, he.length]
  simp only [rawInt]
  rw [if_neg (by rw [hsz]; simp)]
  simp only [Int.toNat_natCast]
  refine wpAny_bind (setNext_small hl ho hd he ht ?_ (by omega))
  rw [hk]
  simp only [Option.map_some]
  refine wpAny_bind (wpAny_setField hit rfl (by simp) ?_)
  have h1 := Heap.get?_update_self (Obj.mapFields (·.setIfInBounds 0 (rawInt (slotAt w l (i + 1))))) hit rfl
  refine wpAny_bind (wpAny_setField h1 rfl (by simp) ?_)
  have h2 := Heap.get?_update_self (Obj.mapFields (·.setIfInBounds 1 (rawInt ((i : Int) + 1)))) h1 rfl
  refine wpAny_pure ⟨_, rfl, wpAny_pure (hQ _ ?_ ((Heap.SameBut.update ..).trans (Heap.SameBut.update ..)))⟩
  exact h2
theorem si_end {it : Addr} {Q : Option Value → Shared → Prop} (hh : A.handled = none) (hl : l ∈ small) (ho : s.heap.get? a = some ob) (hd : ob.data = .set es ep t) (he : EntR es.toList l) (ht : SmT w t l)
    (hit : IsSetIter s.heap it a (slotAt w l l.length) l.length l.length ep)
    (hQ : ∀ h', Heap.ExtBut it s.heap h' → Q none { s with heap := h' }) :
    wpAny (model prog w) A (pyNext (.ref it)) Q E s := by
  unfold pyNext
  refine wpAny_bind (wpAny_attempt (wpAny_callSpecial?_slot (name := Str.ofString "__next__") (si_type hit) slot_si_next
    (wpAny_call_entry slot_si_next (si_type hit) entry_si_next ?_ (args_si_next _))))
  unfold Builtin.«set_iterator.__next__»
  refine wpAny_bind (wpAny_pure ?_)
  refine wpAny_bind (wpAny_fieldsOf hit rfl ?_)
  dsimp only
  refine wpAny_bind (setEntries_small hl ho hd he ht ?_)
  have hsz : es.size = l.length := by rw [← Array.length_toList, he.length]
  simp only [rawInt]
  rw [if_neg (by rw [hsz]; simp)]
  simp only [Int.toNat_natCast]
  have hk : (setOrd w a ep es)[l.length]? = none := by
    have h1 := (setOrd_perm w a ep es).length_eq
    rw [he.length, Array.length_toList] at h1
    exact Array.getElem?_eq_none (by omega)
  refine wpAny_bind (setNext_small hl ho hd he ht ?_ (Nat.le_refl _))
  rw [hk]
  simp only [Option.map_none]
  refine wpAny_bind (wpAny_setField hit rfl (by simp) ?_)
  show wpAny _ _ (newExc (.type "StopIteration") [] >>= _) _ _ _
  refine wpAny_bind ?_
  simp only [newExc, newTuple]
  refine wpAny_bind (wpAny_newObj_type ?_ (by size_fits))
  refine wpAny_bind (m := firstArgMember _ _) (wpAny_of_eq (a := Value.none) (by first | rfl | (simp only [firstArgMember]; rfl)) ?_)
  refine wpAny_newObj_type ?_ (by size_fits)
  simp only [raiseNew]
  refine wpAny_bind (wpAny_handled ?_)
  rw [show A.in1.handled = none from hh]
  refine wpAny_bind (wpAny_pure (wpAny_throw ?_))
  refine wpAny_bind (wpAny_isInstance (T := "StopIteration") (b := true) ⟨_, Heap.get?_push_size _ rfl, rfl⟩ isSubtype_stop ?_)
  exact wpAny_pure (hQ _ (((Heap.SameBut.update ..).extBut.push _).push _))
theorem si_self {it : Addr} {slot i n : Nat} {Q : Value → Shared → Prop} (hit : IsSetIter s.heap it a slot i n ep) (h : Q (.ref it) s) : wpAny (model prog w) A (pyIter (.ref it)) Q E s := by
  refine wpAny_pyIter_slot (si_type hit) slot_si_iter (wpAny_call_entry slot_si_iter (si_type hit) entry_si_iter ?_ (args_si_iter _))
  show wpAny _ _ (ret (.ref it)) _ _ s
  exact wpAny_pure ⟨_, rfl, "set_iterator", _, si_type hit, slot_si_next.lookup, h⟩
theorem set_iter {Q : Value → Shared → Prop} (hl : l ∈ small) (ho : s.heap.get? a = some ob) (hx : ob.ExactSet) (hd : ob.data = .set es ep t) (he : EntR es.toList l) (ht : SmT w t l)
    (hQ : Q (.ref s.heap.objs.size) { s with heap := s.heap.push { cls := .type "set_iterator", data := .fields #[rawInt 0, rawInt 0, .ref a, rawInt l.length, rawInt ep] } }) :
    wpAny (model prog w) A (pyIter (.ref a)) Q E s := by
  have hT : s.TypeIs (.ref a) "set" := ⟨_, ho, hx.1⟩
  have hsz : es.size = l.length := by rw [← Array.length_toList, he.length]
  have hf : t.fits es.size = true := by rw [hsz]; exact ht.fits hl
  refine wpAny_pyIter_slot hT F.slot_set_iter (wpAny_call_entry F.slot_set_iter hT entry_set_iter ?_ (F.args_set_iter_1 _))
  unfold Builtin.«frozenset.__iter__»
  refine wpAny_bind (wpAny_pure ?_)
  refine wpAny_bind ?_
  unfold Builtin.Frozenset.sizeOf
  refine wpAny_bind (setEntries_small hl ho hd he ht (wpAny_pure ?_))
  refine wpAny_bind ?_
  unfold setDrawn
  refine wpAny_bind (wpAny_setState_of ho hd hf ?_)
  unfold setsByText
  refine wpAny_bind (wpAny_bind (wpAny_askSetting (wpAny_pure ?_)))
  refine wpAny_pure ?_
  have hdr : (!(model prog w).w.params.followText "set-order" && (!t.plain && decide (es.size > 1))) = false := by rw [ht.plain]; simp
  dsimp only
  refine wpAny_ite_split (fun hc => ?_) (fun _ => ?_)
  · exact absurd (show (!(model prog w).w.params.followText "set-order" && (!t.plain && decide (es.size > 1))) = true from hc) (by rw [hdr]; exact Bool.false_ne_true)
  refine wpAny_bind (wpAny_pure ?_)
  refine wpAny_bind (wpAny_setEpoch_of ho hd hf ?_)
  refine wpAny_bind (wpAny_newObj_type ?_)
  refine wpAny_pure ⟨_, rfl, "set_iterator", _, ⟨_, Heap.get?_push_size _ rfl, rfl⟩, slot_si_next.lookup, ?_⟩
  rw [hsz]; exact hQ
theorem setWalks (hh : A.handled = none) (I : Addr) (hne : a ≠ I) (hl : l ∈ small) (hd : ob.data = .set es ep t) (he : EntR es.toList l) (ht : SmT w t l) :
    Walks prog w A I [I, a] [I] l.length (fun i v => ∃ k : Int × Value, (setOrd w a ep es)[i]? = some k ∧ v = k.2) (fun i h => IsSetIter h I a (slotAt w l i) i l.length ep ∧ h.get? a = some ob) where
  sub := fun b hb => by simp at hb; simp [hb]
  frame := fun i h h' st hk => ⟨hk I (by simp) _ st.1, hk a (by simp) _ st.2⟩
  item := fun i s Q E hi st hQ => by
    have hlen : (setOrd w a ep es).size = l.length := by
      have h1 := (setOrd_perm w a ep es).length_eq
      rw [he.length, Array.length_toList] at h1; exact h1
    have hk : (setOrd w a ep es)[i]? = some (setOrd w a ep es)[i] := by simp [hlen, hi]
    refine si_item hl st.2 hd he ht st.1 hk hi fun h' hit' hs => ?_
    exact hQ _ h' s.toks ⟨_, hk, rfl⟩ ⟨hit', hs.extBut a _ hne st.2⟩ fun b o hb e => hs.extBut b o (fun h => hb (by simp [h])) e
  done := fun s Q E st hQ => si_end hh hl st.2 hd he ht st.1 fun h' he' => hQ h' s.toks fun b o hb e => he' b o (fun h => hb (by simp [h])) e
  self := fun _ _ _ _ st hQ => si_self st.1 hQ
end
end Mine

open PySem PySem.W PyProof.Rows
set_option Elab.async false
set_option maxRecDepth 100000
set_option maxHeartbeats 1000000
set_option linter.unusedVariables false
namespace Mine
/-! abstract values and objects -/
inductive AV where
  | none
  | bool (b : Bool)
  | int (i : Int)
  | flt (b : UInt64)
  | str (s : Str)
  | tup (l : List AV)
  | mat (l : List AV)
  | ref (n : Nat)
  | st (v : Value)
  | bm (n : Nat) (id : String)
  | rng (a b : Int)
  deriving Inhabited
inductive AO where
  | list (l : List AV)
  | dict (l : List (Int × AV))
  | set (l : List Int)
  | inst (l : List (Option AV))
  | cell (v : Option AV)
  | lock
  deriving Inhabited
structure St where
  hp : List AO
  lc : List (Option AV)
inductive Fl where
  | next | brk | cont
  | ret (v : AV)
abbrev M (α : Type) := St → Option (α × St)
def M.bind {α β : Type} (m : M α) (f : α → M β) : M β := fun σ => match m σ with
  | some (a, σ') => f a σ'
  | none => none
instance : Monad M where
  pure a := fun σ => some (a, σ)
  bind := M.bind
theorem bind_some {α β : Type} {m : M α} {f : α → M β} {σ : St} {r : β × St} (h : (m >>= f) σ = some r) : ∃ a σ₁, m σ = some (a, σ₁) ∧ f a σ₁ = some r := by
  have h' : (match m σ with | some (a, σ') => f a σ' | none => none) = some r := h
  cases e : m σ with
  | none => rw [e] at h'; cases h'
  | some x => obtain ⟨a, σ₁⟩ := x; rw [e] at h'; exact ⟨a, σ₁, rfl, h'⟩
theorem pure_some {α : Type} {a b : α} {σ σ' : St} (h : (pure a : M α) σ = some (b, σ')) : a = b ∧ σ = σ' := by
  have h' : some (a, σ) = some (b, σ') := h
  cases h'; exact ⟨rfl, rfl⟩

/-! the ground: the module's heap, as it lies before the call -/
structure Cx where
  prog : Program
  w : World
  h₀ : Heap
  K : Frag
  mC : Addr
  sC : Addr
  p : Program
  loose : List Str
  mg : Str → Option Value
  mb : Str → Option Value
  X : K.In h₀
  T : TopRead p loose mg mb h₀
abbrev Rho := List (Nat × Nat)

mutual
inductive VRel (mC : Addr) (h : Heap) (ρ : Rho) : AV → Value → Prop
  | none : VRel mC h ρ .none .none
  | bool (b : Bool) : VRel mC h ρ (.bool b) (.bool b)
  | int (i : Int) (t : Tok) : VRel mC h ρ (.int i) (.int i t)
  | flt (b : UInt64) (t : Tok) : VRel mC h ρ (.flt b) (.float b t)
  | str (s : Str) (t : Tok) : VRel mC h ρ (.str s) (.str s t)
  | tup {l : List AV} {a : Addr} {its : List Value} (ht : h.get? a = some { cls := .type "tuple", data := .seq its.toArray }) (hs : VRels mC h ρ l its) : VRel mC h ρ (.tup l) (.ref a)
  | mat {l : List AV} {a : Addr} {d : Option Addr} {its : List Value} (ht : h.get? a = some { cls := .ref mC, dict := d, data := .seq its.toArray }) (hs : VRels mC h ρ l its) : VRel mC h ρ (.mat l) (.ref a)
  | ref {n : Nat} {a d : Nat} (hr : ρ[n]? = some (a, d)) : VRel mC h ρ (.ref n) (.ref a)
  | st (v : Value) : VRel mC h ρ (.st v) v
  | bm {n : Nat} {id : String} {a d r : Nat} (hr : ρ[n]? = some (a, d)) (ho : h.get? r = some { cls := .type "builtin_function_or_method", data := .fields #[.builtin id, .ref a] }) : VRel mC h ρ (.bm n id) (.ref r)
  | rng {a b : Int} {r : Addr} {t u v : Tok} (hr : h.get? r = some { cls := .type "range", data := .fields #[.int a t, .int b u, .int 1 v] }) : VRel mC h ρ (.rng a b) (.ref r)
inductive VRels (mC : Addr) (h : Heap) (ρ : Rho) : List AV → List Value → Prop
  | nil : VRels mC h ρ [] []
  | cons {a : AV} {l : List AV} {v : Value} {vs : List Value} (x : VRel mC h ρ a v) (r : VRels mC h ρ l vs) : VRels mC h ρ (a :: l) (v :: vs)
end

def Frozen (o : Obj) : Prop := match o.data with
  | .seq _ _ => o.cls ≠ .type "list"
  | .fields _ => o.cls = .type "builtin_function_or_method" ∨ o.cls = .type "method" ∨ o.cls = .type "range" ∨ o.cls = .type "dict_keys" ∨ o.cls = .type "dict_items"
  | _ => False
abbrev foot (ρ : Rho) (σ : St) (b : Addr) : Prop := ∃ (n : Nat) (a d : Nat), ρ[n]? = some (a, d) ∧ σ.hp[n]? ≠ some .lock ∧ (b = a ∨ b = d)
structure Sp (L : Addr) (ρ : Rho) (σ : St) (s : Shared) (ρ' : Rho) (σ' : St) (s' : Shared) : Prop where
  ext : ∀ (n : Nat) q, ρ[n]? = some q → ρ'[n]? = some q
  keep : ∀ b o, s.heap.get? b = some o → ¬ foot ρ σ b → b ≠ L → s'.heap.get? b = some o
  frz : ∀ b o, s.heap.get? b = some o → Frozen o → s'.heap.get? b = some o
  new : ∀ (n a d : Nat), ρ.length ≤ n → ρ'[n]? = some (a, d) → s.heap.get? a = none ∧ s.heap.get? d = none
  live : ∀ b o, s.heap.get? b = some o → ∃ o', s'.heap.get? b = some o'
  lock : ∀ n : Nat, σ.hp[n]? = some .lock → σ'.hp[n]? = some .lock
  os : s'.os = s.os
  gens : AllBare s.gens → AllBare s'.gens

mutual
theorem VRel.mono {mC : Addr} {h h' : Heap} {ρ ρ' : Rho} (hf : ∀ b o, h.get? b = some o → Frozen o → h'.get? b = some o) (he : ∀ (n : Nat) q, ρ[n]? = some q → ρ'[n]? = some q) : ∀ {a : AV} {v : Value}, VRel mC h ρ a v → VRel mC h' ρ' a v
  | _, _, .none => .none
  | _, _, .bool b => .bool b
  | _, _, .int i t => .int i t
  | _, _, .flt b t => .flt b t
  | _, _, .str s t => .str s t
  | _, _, .tup ht hs => .tup (hf _ _ ht (by simp [Frozen])) (VRels.mono hf he hs)
  | _, _, .mat ht hs => .mat (hf _ _ ht (by simp [Frozen])) (VRels.mono hf he hs)
  | _, _, .ref hr => .ref (he _ _ hr)
  | _, _, .st v => .st v
  | _, _, .bm hr ho => .bm (he _ _ hr) (hf _ _ ho (by simp [Frozen]))
  | _, _, .rng hr => .rng (hf _ _ hr (by simp [Frozen]))
theorem VRels.mono {mC : Addr} {h h' : Heap} {ρ ρ' : Rho} (hf : ∀ b o, h.get? b = some o → Frozen o → h'.get? b = some o) (he : ∀ (n : Nat) q, ρ[n]? = some q → ρ'[n]? = some q) : ∀ {a : List AV} {v : List Value}, VRels mC h ρ a v → VRels mC h' ρ' a v
  | _, _, .nil => .nil
  | _, _, .cons x r => .cons (VRel.mono hf he x) (VRels.mono hf he r)
end
theorem VRel.step {mC L : Addr} {ρ ρ' : Rho} {σ σ' : St} {s s' : Shared} {a : AV} {v : Value} (S : Sp L ρ σ s ρ' σ' s') (x : VRel mC s.heap ρ a v) : VRel mC s'.heap ρ' a v := x.mono S.frz S.ext
theorem VRels.step {mC L : Addr} {ρ ρ' : Rho} {σ σ' : St} {s s' : Shared} {a : List AV} {v : List Value} (S : Sp L ρ σ s ρ' σ' s') (x : VRels mC s.heap ρ a v) : VRels mC s'.heap ρ' a v := x.mono S.frz S.ext

theorem Sp.refl (L : Addr) (ρ : Rho) (σ : St) (s : Shared) : Sp L ρ σ s ρ σ s where
  ext := fun _ _ h => h
  keep := fun _ _ h _ _ => h
  frz := fun _ _ h _ => h
  new := fun n a d hn hr => by
    have := (List.getElem?_eq_some_iff.mp hr).1
    omega
  live := fun _ o h => ⟨o, h⟩
  lock := fun _ h => h
  os := rfl
  gens := fun h => h
theorem Sp.toks {L : Addr} {ρ : Rho} {σ : St} {s : Shared} (t : Nat) : Sp L ρ σ s ρ σ { s with toks := t } where
  ext := fun _ _ h => h
  keep := fun _ _ h _ _ => h
  frz := fun _ _ h _ => h
  new := fun n a d hn hr => by
    have := (List.getElem?_eq_some_iff.mp hr).1
    omega
  live := fun _ o h => ⟨o, h⟩
  lock := fun _ h => h
  os := rfl
  gens := fun h => h
theorem Sp.trans {L : Addr} {ρ₁ ρ₂ ρ₃ : Rho} {σ₁ σ₂ σ₃ : St} {s₁ s₂ s₃ : Shared} (x : Sp L ρ₁ σ₁ s₁ ρ₂ σ₂ s₂) (y : Sp L ρ₂ σ₂ s₂ ρ₃ σ₃ s₃) : Sp L ρ₁ σ₁ s₁ ρ₃ σ₃ s₃ where
  ext := fun n q h => y.ext n q (x.ext n q h)
  keep := fun b o h hb hL => by
    refine y.keep b o (x.keep b o h hb hL) ?_ hL
    rintro ⟨n, a, d, hr, hlk, hbd⟩
    by_cases hn : n < ρ₁.length
    · have h1 : ρ₁[n]? = some ρ₁[n] := List.getElem?_eq_getElem hn
      have h2 := x.ext n _ h1
      rw [hr] at h2
      exact hb ⟨n, a, d, by rw [h1, ← h2], fun q => hlk (x.lock n q), hbd⟩
    · have hnew := x.new n a d (Nat.le_of_not_lt hn) hr
      rcases hbd with rfl | rfl
      · rw [hnew.1] at h; cases h
      · rw [hnew.2] at h; cases h
  frz := fun b o h hf => y.frz b o (x.frz b o h hf) hf
  new := fun n a d hn hr => by
    by_cases h2 : n < ρ₂.length
    · have h1 : ρ₂[n]? = some ρ₂[n] := List.getElem?_eq_getElem h2
      have h3 := y.ext n _ h1
      rw [hr] at h3
      exact x.new n a d hn (by rw [h1, ← h3])
    · have hnew := y.new n a d (Nat.le_of_not_lt h2) hr
      refine ⟨?_, ?_⟩
      · cases e : s₁.heap.get? a with
        | none => rfl
        | some o => obtain ⟨o', e'⟩ := x.live a o e; rw [hnew.1] at e'; cases e'
      · cases e : s₁.heap.get? d with
        | none => rfl
        | some o => obtain ⟨o', e'⟩ := x.live d o e; rw [hnew.2] at e'; cases e'
  live := fun b o h => let ⟨o', h'⟩ := x.live b o h; y.live b o' h'
  lock := fun n h => y.lock n (x.lock n h)
  os := y.os.trans x.os
  gens := fun h => y.gens (x.gens h)

/-! objects -/
/-- the names of a matcher's attributes, in the order of the abstract object -/
def attrNames : List Str := [Str.ofString "isjunk", Str.ofString "a", Str.ofString "b", Str.ofString "autojunk", Str.ofString "matching_blocks", Str.ofString "opcodes", Str.ofString "fullbcount", Str.ofString "b2j", Str.ofString "bjunk", Str.ofString "bpopular"]
/-- a matcher's dict has no keys but these -/
def AttrKeys (es : Array DictEntry) : Prop := ∀ e ∈ es, ∃ n t, e.key = .str n t ∧ n ∈ attrNames
def PairsR (mC : Addr) (h : Heap) (ρ : Rho) (l : List (Int × AV)) (kvs : List (Int × Value)) : Prop := l.map (·.1) = kvs.map (·.1) ∧ VRels mC h ρ (l.map (·.2)) (kvs.map (·.2))
def ORel (C : Cx) (h : Heap) (ρ : Rho) : AO → Nat × Nat → Prop
  | .list l, (a, d) => a = d ∧ ∃ its : List Value, h.PlainList a its.toArray ∧ VRels C.mC h ρ l its
  | .dict l, (a, d) => a = d ∧ ∃ kvs, h.DictOf (intKind C.prog C.w) a kvs ∧ PairsR C.mC h ρ l kvs
  | .set l, (a, d) => a = d ∧ SetSm C.w h a l
  | .inst l, (a, d) => a ≠ d ∧ h.get? a = some (instObj C.sC d) ∧ ∃ es n, h.get? d = some { cls := .type "dict", data := .dict es n } ∧ (AttrKeys es ∧ es.size ≤ l.countP (·.isSome)) ∧ ∀ (i : Nat) (av : AV), l[i]? = some (some av) → ∃ x v, attrNames[i]? = some x ∧ nsFind es x = some v ∧ VRel C.mC h ρ av v
  | .lock, (a, d) => (∃ o, h.get? a = some o ∧ ¬ Frozen o) ∧ ∃ o, h.get? d = some o ∧ ¬ Frozen o
  | .cell v, (a, d) => a = d ∧ ∃ w, h.IsCell a w ∧ ∀ av, v = some av → ∃ x, w = some x ∧ VRel C.mC h ρ av x

def SlotR (C : Cx) (env : Env) (h : Heap) (ρ : Rho) (m : Str → Option Value) (i : Nat) (av : AV) : Prop :=
  ∃ x k, env.scope.names[i]? = some (x, k) ∧ ((k = .local ∧ ∃ v, m x = some v ∧ VRel C.mC h ρ av v) ∨ ((k = .cell ∨ k = .free) ∧ ∃ (n : Nat) (c : Addr), av = .ref n ∧ env.cells.lookup x = some c ∧ ρ[n]? = some (c, c)))
structure Rep (C : Cx) (env : Env) (ρ : Rho) (σ : St) (h : Heap) : Prop where
  base : ∀ b o, C.h₀.get? b = some o → h.get? b = some o
  above : C.h₀.objs.size ≤ env.locals
  ns : ∃ m, h.Ns env.locals m ∧ ∀ (i : Nat) (av : AV), σ.lc[i]? = some (some av) → SlotR C env h ρ m i av
  len : ρ.length = σ.hp.length
  objs : ∀ (n : Nat) o q, σ.hp[n]? = some o → ρ[n]? = some q → ORel C h ρ o q
  fresh : ∀ (n a d : Nat), ρ[n]? = some (a, d) → C.h₀.objs.size ≤ a ∧ C.h₀.objs.size ≤ d ∧ a ≠ env.locals ∧ d ≠ env.locals
  sep : ∀ (n m a d a' d' : Nat), ρ[n]? = some (a, d) → ρ[m]? = some (a', d') → n ≠ m → a ≠ a' ∧ a ≠ d' ∧ d ≠ a' ∧ d ≠ d'
  names : (env.scope.names.map (·.1)).Nodup
  kind : env.scope.kind = .function
  globs : env.globals = mainGlobals
  blts : env.builtins = builtinsNs

def AOk (k : Nat) (A : Around) : Prop := A.handled = none ∧ A.depth + 2 * k ≤ 400 ∧ A.units + 40 * k ≤ 1000
def Den (C : Cx) (k : Nat) (env : Env) {α β : Type} (Rv : Heap → Rho → α → β → Prop) (t : Sem β) (m : M α) : Prop :=
  ∀ (A : Around) (σ : St) (a : α) (σ' : St), AOk k A → m σ = some (a, σ') → ∀ (ρ : Rho) (s : Shared) (Q : β → Shared → Prop) (E : Value → Shared → Prop), Rep C env ρ σ s.heap →
    (∀ ρ' s' b, Rep C env ρ' σ' s'.heap → Sp env.locals ρ σ s ρ' σ' s' → Rv s'.heap ρ' a b → Q b s') → wpAny (model C.prog C.w) A t Q E s
inductive FRel (mC : Addr) (h : Heap) (ρ : Rho) : Fl → Flow → Prop
  | next : FRel mC h ρ .next .next
  | brk : FRel mC h ρ .brk .brk
  | cont : FRel mC h ρ .cont .cont
  | ret {a : AV} {v : Value} (x : VRel mC h ρ a v) : FRel mC h ρ (.ret a) (.ret v)
abbrev DV (C : Cx) (k : Nat) (env : Env) (t : Sem Value) (m : M AV) : Prop := Den C k env (fun h ρ a v => VRel C.mC h ρ a v) t m
abbrev DB (C : Cx) (k : Nat) (env : Env) (t : Sem Bool) (m : M Bool) : Prop := Den C k env (fun _ _ a b => b = a) t m
abbrev DS (C : Cx) (k : Nat) (env : Env) (t : Sem Flow) (m : M Fl) : Prop := Den C k env (fun h ρ a v => FRel C.mC h ρ a v) t m
abbrev DU (C : Cx) (k : Nat) (env : Env) (t : Sem Unit) (m : M Unit) : Prop := Den C k env (fun _ _ _ _ => True) t m
abbrev DL (C : Cx) (k : Nat) (env : Env) (t : Sem (List Value)) (m : M (List AV)) : Prop := Den C k env (fun h ρ a v => VRels C.mC h ρ a v) t m

section
variable {C : Cx} {k : Nat} {env : Env}
theorem Rep.fr {ρ : Rho} {σ : St} {h : Heap} (R : Rep C env ρ σ h) {m : Str → Option Value} (hm : h.Ns env.locals m) : Fr C.h₀ env.locals h m := ⟨hm, R.base, R.above⟩

theorem ORel.keep {h h' : Heap} {ρ ρ' : Rho} {o : AO} {a d : Nat} (hf : ∀ b o, h.get? b = some o → Frozen o → h'.get? b = some o) (he : ∀ (n : Nat) q, ρ[n]? = some q → ρ'[n]? = some q)
    (ha : ∀ o, h.get? a = some o → h'.get? a = some o) (hd : ∀ o, h.get? d = some o → h'.get? d = some o) (x : ORel C h ρ o (a, d)) : ORel C h' ρ' o (a, d) := by
  cases o with
  | list l => obtain ⟨e, its, ⟨n, p⟩, v⟩ := x; exact ⟨e, its, ⟨n, ha _ p⟩, v.mono hf he⟩
  | dict l => obtain ⟨e, kvs, ⟨o, es, ep, p, r⟩, q, v⟩ := x; exact ⟨e, kvs, ⟨o, es, ep, ha _ p, r⟩, q, v.mono hf he⟩
  | set l => obtain ⟨e, ⟨m, o, es, ep, t, p, r⟩⟩ := x; exact ⟨e, ⟨m, o, es, ep, t, ha _ p, r⟩⟩
  | inst l => obtain ⟨e, p, es, n, q, k, r⟩ := x; exact ⟨e, ha _ p, es, n, hd _ q, k, fun i av hy => let ⟨x, v, h0, h1, h2⟩ := r i av hy; ⟨x, v, h0, h1, h2.mono hf he⟩⟩
  | cell v => obtain ⟨e, w, ⟨o, p, r⟩, q⟩ := x; exact ⟨e, w, ⟨o, ha _ p, r⟩, fun av hv => let ⟨y, h1, h2⟩ := q av hv; ⟨y, h1, h2.mono hf he⟩⟩
  | lock => obtain ⟨⟨o, p, x⟩, o', q, y⟩ := x; exact ⟨⟨o, ha _ p, x⟩, o', hd _ q, y⟩
theorem ns_keep {h h' : Heap} {L : Addr} {m : Str → Option Value} (x : h.Ns L m) (hk : ∀ o, h.get? L = some o → h'.get? L = some o) : h'.Ns L m :=
  let ⟨o, es, ep, p, r⟩ := x; ⟨o, es, ep, hk _ p, r⟩
theorem SlotR.mono {h h' : Heap} {ρ ρ' : Rho} {m : Str → Option Value} {i : Nat} {av : AV} (hf : ∀ b o, h.get? b = some o → Frozen o → h'.get? b = some o) (he : ∀ (n : Nat) q, ρ[n]? = some q → ρ'[n]? = some q) (x : SlotR C env h ρ m i av) : SlotR C env h' ρ' m i av := by
  obtain ⟨x, kk, hn, hx⟩ := x
  refine ⟨x, kk, hn, ?_⟩
  rcases hx with ⟨hk, v, hv, hV⟩ | ⟨hk, n, c, h1, h2, h3⟩
  · exact .inl ⟨hk, v, hv, hV.mono hf he⟩
  · exact .inr ⟨hk, n, c, h1, h2, he _ _ h3⟩
/-- the heap grows or turns outside what is spoken of -/
theorem Rep.move {ρ : Rho} {σ : St} {h h' : Heap} (R : Rep C env ρ σ h) (hb : ∀ b o, C.h₀.get? b = some o → h.get? b = some o → h'.get? b = some o) (hf : ∀ b o, h.get? b = some o → Frozen o → h'.get? b = some o)
    (hk : ∀ b o, (∃ (n a d : Nat), ρ[n]? = some (a, d) ∧ (b = a ∨ b = d)) ∨ b = env.locals → h.get? b = some o → h'.get? b = some o) : Rep C env ρ σ h' where
  base := fun b o e => hb b o e (R.base b o e)
  above := R.above
  ns := let ⟨m, hm, hs⟩ := R.ns; ⟨m, ns_keep hm (fun o e => hk _ o (.inr rfl) e), fun i av e => (hs i av e).mono hf (fun _ _ e => e)⟩
  len := R.len
  objs := fun n o q ho hq => by
    obtain ⟨a, d⟩ := q
    exact (R.objs n o _ ho hq).keep hf (fun _ _ e => e) (fun o e => hk _ o (.inl ⟨n, a, d, hq, .inl rfl⟩) e) (fun o e => hk _ o (.inl ⟨n, a, d, hq, .inr rfl⟩) e)
  fresh := R.fresh
  sep := R.sep
  names := R.names
  kind := R.kind
  globs := R.globs
  blts := R.blts
theorem Rep.push {ρ : Rho} {σ : St} {h : Heap} (R : Rep C env ρ σ h) (o : Obj) : Rep C env ρ σ (h.push o) :=
  R.move (fun b o' _ e => Heap.get?_push_of_some o e) (fun b o' e _ => Heap.get?_push_of_some o e) (fun b o' _ e => Heap.get?_push_of_some o e)
theorem Sp.push {L : Addr} {ρ : Rho} {σ : St} {s : Shared} (o : Obj) (t : Nat) : Sp L ρ σ s ρ σ { s with heap := s.heap.push o, toks := t } where
  ext := fun _ _ h => h
  keep := fun b o' h _ _ => Heap.get?_push_of_some o h
  frz := fun b o' h _ => Heap.get?_push_of_some o h
  new := fun n a d hn hr => by
    have := (List.getElem?_eq_some_iff.mp hr).1
    omega
  live := fun b o' h => ⟨o', Heap.get?_push_of_some o h⟩
  lock := fun _ h => h
  os := rfl
  gens := fun h => h
/-- a new object of the abstract heap -/
theorem Rep.allocG {ρ : Rho} {σ : St} {h h' : Heap} {a₀ d₀ : Nat} (R : Rep C env ρ σ h) (ao : AO) (hk : ∀ b o, h.get? b = some o → h'.get? b = some o) (ha₀ : h.objs.size ≤ a₀) (hd₀ : h.objs.size ≤ d₀) (hL : h.objs.size > env.locals) (hr : ORel C h' (ρ ++ [(a₀, d₀)]) ao (a₀, d₀)) :
    Rep C env (ρ ++ [(a₀, d₀)]) { σ with hp := σ.hp ++ [ao] } h' := by
  have R' := R.move (h' := h') (fun b o' _ e => hk b o' e) (fun b o' e _ => hk b o' e) (fun b o' _ e => hk b o' e)
  have he : ∀ (n : Nat) q, ρ[n]? = some q → (ρ ++ [(a₀, d₀)])[n]? = some q := fun n q e => by
    rw [List.getElem?_append_left (List.getElem?_eq_some_iff.mp e).1]; exact e
  have hcase : ∀ (n : Nat) q, (ρ ++ [(a₀, d₀)])[n]? = some q → ρ[n]? = some q ∨ (n = ρ.length ∧ q = (a₀, d₀)) := fun n q e => by
    by_cases hn : n < ρ.length
    · rw [List.getElem?_append_left hn] at e; exact .inl e
    · rw [List.getElem?_append_right (Nat.le_of_not_lt hn)] at e
      have hlt := (List.getElem?_eq_some_iff.mp e).1
      simp only [List.length_singleton] at hlt
      have hz : n - ρ.length = 0 := by omega
      rw [hz] at e
      simp only [List.getElem?_cons_zero, Option.some.injEq] at e
      exact .inr ⟨by omega, e.symm⟩
  have hlt : ∀ (n a d : Nat), ρ[n]? = some (a, d) → a < h.objs.size ∧ d < h.objs.size := fun n a d e => by
    have hn := (List.getElem?_eq_some_iff.mp e).1
    rw [R.len] at hn
    have ho : σ.hp[n]? = some σ.hp[n] := List.getElem?_eq_getElem hn
    have x := R.objs n _ _ ho e
    generalize σ.hp[n] = oo at x
    cases oo with
    | list l => obtain ⟨rfl, its, ⟨n, p⟩, v⟩ := x; exact ⟨Heap.lt_size p, Heap.lt_size p⟩
    | dict l => obtain ⟨rfl, kvs, ⟨o, es, ep, p, r⟩, q, v⟩ := x; exact ⟨Heap.lt_size p, Heap.lt_size p⟩
    | set l => obtain ⟨rfl, ⟨m, o, es, ep, t, p, r⟩⟩ := x; exact ⟨Heap.lt_size p, Heap.lt_size p⟩
    | inst l => obtain ⟨e, p, es, n, q, k, r⟩ := x; exact ⟨Heap.lt_size p, Heap.lt_size q⟩
    | cell v => obtain ⟨rfl, w, ⟨o, p, r⟩, q⟩ := x; exact ⟨Heap.lt_size p, Heap.lt_size p⟩
    | lock => obtain ⟨⟨o, p, _⟩, o', q, _⟩ := x; exact ⟨Heap.lt_size p, Heap.lt_size q⟩
  exact {
    base := R'.base
    above := R.above
    ns := let ⟨m, hm, hs⟩ := R'.ns; ⟨m, hm, fun i av e => (hs i av e).mono (fun _ _ e _ => e) he⟩
    len := by simp only [List.length_append, List.length_singleton, R.len]
    objs := fun n o' q ho hq => by
      obtain ⟨a, d⟩ := q
      rcases hcase n _ hq with hq' | ⟨rfl, e⟩
      · have hn := (List.getElem?_eq_some_iff.mp hq').1
        rw [R.len] at hn
        rw [List.getElem?_append_left hn] at ho
        exact (R'.objs n o' _ ho hq').keep (fun _ _ e _ => e) he (fun _ e => e) (fun _ e => e)
      · rw [R.len, List.getElem?_append_right (Nat.le_refl _), Nat.sub_self] at ho
        simp only [List.getElem?_cons_zero, Option.some.injEq] at ho
        subst ho
        rw [e]; exact hr
    fresh := fun n a d hq => by
      rcases hcase n _ hq with hq' | ⟨rfl, e⟩
      · exact R.fresh n a d hq'
      · cases e
        have := R.above
        exact ⟨by omega, by omega, by omega, by omega⟩
    sep := fun n m a d a' d' h1 h2 hne => by
      rcases hcase n _ h1 with h1' | ⟨rfl, e1⟩
      · rcases hcase m _ h2 with h2' | ⟨rfl, e2⟩
        · exact R.sep n m a d a' d' h1' h2' hne
        · cases e2
          have := hlt n a d h1'
          exact ⟨by omega, by omega, by omega, by omega⟩
      · rcases hcase m _ h2 with h2' | ⟨rfl, e2⟩
        · cases e1
          have := hlt m a' d' h2'
          exact ⟨by omega, by omega, by omega, by omega⟩
        · exact absurd rfl hne
    names := R.names
    kind := R.kind
    globs := R.globs
    blts := R.blts }
theorem Rep.alloc {ρ : Rho} {σ : St} {h : Heap} (R : Rep C env ρ σ h) (o : Obj) (ao : AO) (hL : h.objs.size > env.locals) (hr : ORel C (h.push o) (ρ ++ [(h.objs.size, h.objs.size)]) ao (h.objs.size, h.objs.size)) :
    Rep C env (ρ ++ [(h.objs.size, h.objs.size)]) { σ with hp := σ.hp ++ [ao] } (h.push o) :=
  R.allocG ao (fun b o' e => Heap.get?_push_of_some o e) (Nat.le_refl _) (Nat.le_refl _) hL hr
theorem Sp.allocG {L : Addr} {ρ : Rho} {σ : St} {s : Shared} {h' : Heap} {a₀ d₀ : Nat} (ao : AO) (t : Nat) (hk : ∀ b o, s.heap.get? b = some o → h'.get? b = some o) (ha₀ : s.heap.objs.size ≤ a₀) (hd₀ : s.heap.objs.size ≤ d₀) : Sp L ρ σ s (ρ ++ [(a₀, d₀)]) { σ with hp := σ.hp ++ [ao] } { s with heap := h', toks := t } where
  ext := fun n q e => by rw [List.getElem?_append_left (List.getElem?_eq_some_iff.mp e).1]; exact e
  keep := fun b o e _ _ => hk b o e
  frz := fun b o e _ => hk b o e
  new := fun n a d hn hr => by
    rw [List.getElem?_append_right hn] at hr
    have hlt := (List.getElem?_eq_some_iff.mp hr).1
    simp only [List.length_singleton] at hlt
    have hz : n - ρ.length = 0 := by omega
    rw [hz] at hr
    simp only [List.getElem?_cons_zero, Option.some.injEq, Prod.mk.injEq] at hr
    obtain ⟨rfl, rfl⟩ := hr
    refine ⟨?_, ?_⟩
    · cases e : s.heap.get? a₀ with
      | none => rfl
      | some o => exact absurd (Heap.lt_size e) (Nat.not_lt.mpr ha₀)
    · cases e : s.heap.get? d₀ with
      | none => rfl
      | some o => exact absurd (Heap.lt_size e) (Nat.not_lt.mpr hd₀)
  live := fun b o e => ⟨o, hk b o e⟩
  lock := fun n h => by
    show (σ.hp ++ [ao])[n]? = _
    rw [List.getElem?_append_left (List.getElem?_eq_some_iff.mp h).1]; exact h
  os := rfl
  gens := fun h => h
theorem Sp.alloc {L : Addr} {ρ : Rho} {σ : St} {s : Shared} (o : Obj) (ao : AO) (t : Nat) : Sp L ρ σ s (ρ ++ [(s.heap.objs.size, s.heap.objs.size)]) { σ with hp := σ.hp ++ [ao] } { s with heap := s.heap.push o, toks := t } where
  ext := fun n q e => by rw [List.getElem?_append_left (List.getElem?_eq_some_iff.mp e).1]; exact e
  keep := (Sp.push (L := L) (ρ := ρ) (σ := σ) o t).keep
  frz := (Sp.push (L := L) (ρ := ρ) (σ := σ) o t).frz
  new := fun n a d hn hr => by
    rw [List.getElem?_append_right hn] at hr
    have hlt := (List.getElem?_eq_some_iff.mp hr).1
    simp only [List.length_singleton] at hlt
    have hz : n - ρ.length = 0 := by omega
    rw [hz] at hr
    simp only [List.getElem?_cons_zero, Option.some.injEq, Prod.mk.injEq] at hr
    obtain ⟨rfl, rfl⟩ := hr
    have : s.heap.get? s.heap.objs.size = none := by
      cases e : s.heap.get? s.heap.objs.size with
      | none => rfl
      | some o => exact absurd (Heap.lt_size e) (Nat.lt_irrefl _)
    exact ⟨this, this⟩
  live := (Sp.push (L := L) (ρ := ρ) (σ := σ) o t).live
  lock := fun n h => by
    show (σ.hp ++ [ao])[n]? = _
    rw [List.getElem?_append_left (List.getElem?_eq_some_iff.mp h).1]; exact h
  os := rfl
  gens := fun h => h
theorem Rep.lsize {ρ : Rho} {σ : St} {h : Heap} (R : Rep C env ρ σ h) : h.objs.size > env.locals := by
  obtain ⟨m, ⟨o, es, ep, p, _⟩, _⟩ := R.ns
  exact Heap.lt_size p
theorem lookup_of_nth {α β : Type} [BEq α] [LawfulBEq α] : ∀ {l : List (α × β)} {i : Nat} {x : α} {y : β}, (l.map (·.1)).Nodup → l[i]? = some (x, y) → l.lookup x = some y
  | [], i, x, y, _, h => by simp at h
  | (a, b) :: l, 0, x, y, _, h => by
    simp only [List.getElem?_cons_zero, Option.some.injEq, Prod.mk.injEq] at h
    obtain ⟨rfl, rfl⟩ := h
    simp
  | (a, b) :: l, i + 1, x, y, hn, h => by
    simp only [List.map_cons, List.nodup_cons] at hn
    rw [List.getElem?_cons_succ] at h
    have hx : x ≠ a := by
      rintro rfl
      exact hn.1 (List.mem_map.mpr ⟨(x, y), List.mem_of_getElem? h, rfl⟩)
    rw [List.lookup_cons]
    have : (x == a) = false := by simpa using hx
    rw [this]
    exact lookup_of_nth hn.2 h
theorem nodup_inj : ∀ {l : List (Str × NameKind)} {i j : Nat} {x : Str} {y z : NameKind}, (l.map (·.1)).Nodup → l[i]? = some (x, y) → l[j]? = some (x, z) → i = j
  | [], i, j, x, y, z, _, h, _ => by simp at h
  | a :: l, 0, 0, _, _, _, _, _, _ => rfl
  | a :: l, 0, j + 1, x, y, z, hn, h1, h2 => by
    simp only [List.map_cons, List.nodup_cons] at hn
    simp only [List.getElem?_cons_zero, Option.some.injEq] at h1
    subst h1
    rw [List.getElem?_cons_succ] at h2
    exact absurd (List.mem_map.mpr ⟨(x, z), List.mem_of_getElem? h2, rfl⟩) hn.1
  | a :: l, i + 1, 0, x, y, z, hn, h1, h2 => by
    simp only [List.map_cons, List.nodup_cons] at hn
    simp only [List.getElem?_cons_zero, Option.some.injEq] at h2
    subst h2
    rw [List.getElem?_cons_succ] at h1
    exact absurd (List.mem_map.mpr ⟨(x, y), List.mem_of_getElem? h1, rfl⟩) hn.1
  | a :: l, i + 1, j + 1, x, y, z, hn, h1, h2 => by
    simp only [List.map_cons, List.nodup_cons] at hn
    rw [List.getElem?_cons_succ] at h1 h2
    rw [nodup_inj hn.2 h1 h2]
theorem notFrozen_ns {h : Heap} {L : Addr} {m : Str → Option Value} (x : h.Ns L m) : ∀ o, h.get? L = some o → ¬ Frozen o := by
  obtain ⟨o, es, ep, p, hd, _⟩ := x
  intro o' e hf
  rw [p] at e; cases e
  simp [Frozen, hd] at hf
theorem ORel.notFrozen {h : Heap} {ρ : Rho} {o : AO} {a d : Nat} (x : ORel C h ρ o (a, d)) : ∀ b, b = a ∨ b = d → ∀ ob, h.get? b = some ob → ¬ Frozen ob := by
  intro b hb ob e hf
  cases o with
  | list l => obtain ⟨rfl, its, ⟨n, p⟩, v⟩ := x; obtain rfl : b = a := by simpa using hb
              rw [p] at e; cases e; simp [Frozen] at hf
  | dict l => obtain ⟨rfl, kvs, ⟨o, es, ep, p, hx, hd, r⟩, q, v⟩ := x; obtain rfl : b = a := by simpa using hb
              rw [p] at e; cases e; simp [Frozen, hd] at hf
  | set l => obtain ⟨rfl, ⟨m, o, es, ep, t, p, hx, hd, r⟩⟩ := x; obtain rfl : b = a := by simpa using hb
             rw [p] at e; cases e; simp [Frozen, hd] at hf
  | inst l =>
    obtain ⟨hne, p, es, n, q, k, r⟩ := x
    rcases hb with rfl | rfl
    · rw [p] at e; cases e; simp [Frozen] at hf
    · rw [q] at e; cases e; simp [Frozen] at hf
  | cell v => obtain ⟨rfl, w, ⟨o, p, r⟩, q⟩ := x; obtain rfl : b = a := by simpa using hb
              rw [p] at e; cases e; simp [Frozen, r] at hf
  | lock =>
    obtain ⟨⟨o, p, x⟩, o', q, y⟩ := x
    rcases hb with rfl | rfl
    · rw [p] at e; cases e; exact x hf
    · rw [q] at e; cases e; exact y hf
theorem Rep.obj {ρ : Rho} {σ : St} {h : Heap} (R : Rep C env ρ σ h) {n : Nat} {a d : Nat} (hq : ρ[n]? = some (a, d)) : ∃ o, σ.hp[n]? = some o ∧ ORel C h ρ o (a, d) := by
  have hn := (List.getElem?_eq_some_iff.mp hq).1
  rw [R.len] at hn
  have ho : σ.hp[n]? = some σ.hp[n] := List.getElem?_eq_getElem hn
  exact ⟨_, ho, R.objs n _ _ ho hq⟩
theorem Rep.at {ρ : Rho} {σ : St} {h : Heap} (R : Rep C env ρ σ h) {n : Nat} {o : AO} (ho : σ.hp[n]? = some o) : ∃ a d, ρ[n]? = some (a, d) ∧ ORel C h ρ o (a, d) := by
  have hn := (List.getElem?_eq_some_iff.mp ho).1
  rw [← R.len] at hn
  have hq : ρ[n]? = some ρ[n] := List.getElem?_eq_getElem hn
  exact ⟨ρ[n].1, ρ[n].2, hq, R.objs n _ _ ho hq⟩
theorem Rep.stloc {ρ : Rho} {σ : St} {h h' : Heap} {i : Nat} {x : Str} {av : AV} {v : Value} {m : Str → Option Value} (R : Rep C env ρ σ h) (hi : env.scope.names[i]? = some (x, .local)) (hV : VRel C.mC h ρ av v)
    (hm : h.Ns env.locals m) (hsl : ∀ (i : Nat) (av : AV), σ.lc[i]? = some (some av) → SlotR C env h ρ m i av)
    (hn : h'.Ns env.locals (fun y => if y = x then some v else m y)) (hs : Heap.SameBut env.locals h h') : Rep C env ρ { σ with lc := σ.lc.set i (some av) } h' := by
  have hf : ∀ b o, h.get? b = some o → Frozen o → h'.get? b = some o := fun b o e hf => by
    by_cases hb : b = env.locals
    · subst hb; exact absurd hf (notFrozen_ns hm o e)
    · rw [hs.2 b hb]; exact e
  have hk : ∀ n a d, ρ[n]? = some (a, d) → (∀ o, h.get? a = some o → h'.get? a = some o) ∧ (∀ o, h.get? d = some o → h'.get? d = some o) := fun n a d e => by
    have := R.fresh n a d e
    exact ⟨fun o q => by rw [hs.2 a this.2.2.1]; exact q, fun o q => by rw [hs.2 d this.2.2.2]; exact q⟩
  exact {
    base := fun b o e => by
      have := R.above
      have hb := Heap.lt_size e
      rw [hs.2 b (fun q => by subst q; exact absurd hb (Nat.not_lt.mpr this))]; exact R.base b o e
    above := R.above
    ns := by
      refine ⟨_, hn, fun j aw hj => ?_⟩
      rw [List.getElem?_set] at hj
      by_cases hij : i = j
      · subst hij
        rw [if_pos rfl] at hj
        split at hj
        · simp only [Option.some.injEq] at hj
          subst hj
          exact ⟨x, .local, hi, .inl ⟨rfl, v, by simp, hV.mono hf (fun _ _ e => e)⟩⟩
        · cases hj
      · rw [if_neg hij] at hj
        obtain ⟨y, kk, hy, hh⟩ := hsl j aw hj
        refine ⟨y, kk, hy, ?_⟩
        rcases hh with ⟨hk', v', hv', hV'⟩ | ⟨hk', n, c, h1, h2, h3⟩
        · refine .inl ⟨hk', v', ?_, hV'.mono hf (fun _ _ e => e)⟩
          have hyx : y ≠ x := by
            rintro rfl
            exact hij (nodup_inj R.names hi hy)
          show (if y = x then some v else m y) = some v'
          rw [if_neg hyx]; exact hv'
        · exact .inr ⟨hk', n, c, h1, h2, h3⟩
    len := R.len
    objs := fun n o q ho hq => by
      obtain ⟨a, d⟩ := q
      exact (R.objs n o _ ho hq).keep hf (fun _ _ e => e) (hk n a d hq).1 (hk n a d hq).2
    fresh := R.fresh
    sep := R.sep
    names := R.names
    kind := R.kind
    globs := R.globs
    blts := R.blts }
theorem Sp.same {ρ : Rho} {σ σ' : St} {s : Shared} {h' : Heap} {L x : Addr} (hx : x = L ∨ foot ρ σ x) (hs : Heap.SameBut x s.heap h') (hnf : ∀ o, s.heap.get? x = some o → ¬ Frozen o) (hl : ∃ o, h'.get? x = some o) (hlk : ∀ n : Nat, σ.hp[n]? = some .lock → σ'.hp[n]? = some .lock) (t : Nat) : Sp L ρ σ s ρ σ' { s with heap := h', toks := t } where
  ext := fun _ _ h => h
  keep := fun b o e hb hL => by
    have : b ≠ x := by rintro rfl; rcases hx with rfl | hx; exact hL rfl; exact hb hx
    show h'.get? b = _
    rw [hs.2 b this]; exact e
  frz := fun b o e hf => by
    have : b ≠ x := by rintro rfl; exact hnf o e hf
    show h'.get? b = _
    rw [hs.2 b this]; exact e
  new := fun n a d hn hr => by
    have := (List.getElem?_eq_some_iff.mp hr).1
    omega
  live := fun b o e => by
    by_cases hb : b = x
    · subst hb; exact hl
    · exact ⟨o, by show h'.get? b = _; rw [hs.2 b hb]; exact e⟩
  lock := hlk
  os := rfl
  gens := fun h => h
theorem Rep.set {ρ : Rho} {σ : St} {h h' : Heap} {n a d x : Nat} {o' : AO} (R : Rep C env ρ σ h) (hq : ρ[n]? = some (a, d)) (hx : x = a ∨ x = d) (hs : Heap.SameBut x h h') (hnf : ∀ o, h.get? x = some o → ¬ Frozen o)
    (hr : ORel C h' ρ o' (a, d)) : Rep C env ρ { σ with hp := σ.hp.set n o' } h' := by
  have hf : ∀ b o, h.get? b = some o → Frozen o → h'.get? b = some o := fun b o e hf => by
    by_cases hb : b = x
    · subst hb; exact absurd hf (hnf o e)
    · rw [hs.2 b hb]; exact e
  have hfr := R.fresh n a d hq
  exact {
    base := fun b o e => by
      have hb := Heap.lt_size e
      have : b ≠ x := by
        rintro rfl
        rcases hx with rfl | rfl
        · exact absurd hb (Nat.not_lt.mpr hfr.1)
        · exact absurd hb (Nat.not_lt.mpr hfr.2.1)
      rw [hs.2 b this]; exact R.base b o e
    above := R.above
    ns := let ⟨m, hm, hsl⟩ := R.ns; ⟨m, ns_keep hm (fun o e => by
      have : env.locals ≠ x := by rcases hx with rfl | rfl; exact fun q => hfr.2.2.1 q.symm; exact fun q => hfr.2.2.2 q.symm
      rw [hs.2 _ this]; exact e), fun i av e => (hsl i av e).mono hf (fun _ _ e => e)⟩
    len := by simp only [List.length_set, R.len]
    objs := fun m o q ho hq' => by
      obtain ⟨a', d'⟩ := q
      rw [List.getElem?_set] at ho
      by_cases hnm : n = m
      · subst hnm
        rw [hq] at hq'; cases hq'
        rw [if_pos rfl] at ho
        split at ho
        · simp only [Option.some.injEq] at ho; subst ho; exact hr
        · cases ho
      · rw [if_neg hnm] at ho
        have hsep := R.sep n m a d a' d' hq hq' hnm
        refine (R.objs m o _ ho hq').keep hf (fun _ _ e => e) (fun o e => ?_) (fun o e => ?_)
        · have : a' ≠ x := by rcases hx with rfl | rfl; exact fun q => hsep.1 q.symm; exact fun q => hsep.2.2.1 q.symm
          rw [hs.2 _ this]; exact e
        · have : d' ≠ x := by rcases hx with rfl | rfl; exact fun q => hsep.2.1 q.symm; exact fun q => hsep.2.2.2 q.symm
          rw [hs.2 _ this]; exact e
    fresh := R.fresh
    sep := R.sep
    names := R.names
    kind := R.kind
    globs := R.globs
    blts := R.blts }
theorem den_int {i : Int} {kk pos} : DV C k env (eval (.Constant (.int i) kk pos) env) (pure (.int i)) := by
  intro A σ a σ' hA hm ρ s Q E R h
  obtain ⟨rfl, rfl⟩ := pure_some hm
  exact wpAny_Constant_int (h ρ _ _ R (Sp.toks _) (.int _ _))
theorem den_none {kk pos} : DV C k env (eval (.Constant .none kk pos) env) (pure .none) := by
  intro A σ a σ' hA hm ρ s Q E R h
  obtain ⟨rfl, rfl⟩ := pure_some hm
  exact wpAny_Constant_none (h ρ _ _ R (Sp.refl _ _ _ _) .none)
theorem den_bool {b : Bool} {kk pos} : DV C k env (eval (.Constant (.bool b) kk pos) env) (pure (.bool b)) := by
  intro A σ a σ' hA hm ρ s Q E R h
  obtain ⟨rfl, rfl⟩ := pure_some hm
  exact wpAny_Constant_bool (h ρ _ _ R (Sp.refl _ _ _ _) (.bool _))
def ldM (i : Nat) : M AV := fun σ => match σ.lc[i]? with
  | some (some v) => some (v, σ)
  | _ => none
theorem ldM_some {i : Nat} {σ σ' : St} {a : AV} (h : ldM i σ = some (a, σ')) : σ = σ' ∧ σ.lc[i]? = some (some a) := by
  unfold ldM at h
  split at h
  · rename_i v e; cases h; exact ⟨rfl, e⟩
  · cases h
theorem den_local {x : Str} {pos : Pos} (i : Nat) (hi : env.scope.names[i]? = some (x, .local)) (hd : (x == ("__debug__" : Str)) = false) : DV C k env (eval (.Name x pos) env) (ldM i) := by
  intro A σ a σ' hA hm ρ s Q E R h
  obtain ⟨rfl, hv⟩ := ldM_some hm
  obtain ⟨m, hns, hs⟩ := R.ns
  obtain ⟨y, kk, hy, hh⟩ := hs i a hv
  rw [hi] at hy
  cases hy
  rcases hh with ⟨_, v, hmv, hV⟩ | ⟨hk, _⟩
  · exact wpAny_Name (wpAny_loadName_local R.kind (lookup_of_nth R.names hi) hns hmv (h ρ s v R (Sp.refl _ _ _ _) hV)) hd
  · rcases hk with hk | hk <;> cases hk
end
end Mine

open PySem PySem.W PyProof.Rows
set_option Elab.async false
set_option maxRecDepth 100000
set_option maxHeartbeats 1000000
set_option linter.unusedVariables false
namespace Mine
section
variable {C : Cx} {k : Nat} {env : Env}
/-! operations of two values, of one value, stores -/
def DO2 (C : Cx) (k : Nat) (env : Env) {α β : Type} (Rv : Heap → Rho → α → β → Prop) (t : Value → Value → Sem β) (f : AV → AV → M α) : Prop :=
  ∀ (A : Around) (σ : St) (a b : AV) (r : α) (σ' : St), AOk k A → f a b σ = some (r, σ') → ∀ (ρ : Rho) (s : Shared) (Q : β → Shared → Prop) (E : Value → Shared → Prop) (va vb : Value), Rep C env ρ σ s.heap → VRel C.mC s.heap ρ a va → VRel C.mC s.heap ρ b vb →
    (∀ ρ' s' v, Rep C env ρ' σ' s'.heap → Sp env.locals ρ σ s ρ' σ' s' → Rv s'.heap ρ' r v → Q v s') → wpAny (model C.prog C.w) A (t va vb) Q E s
def DO1 (C : Cx) (k : Nat) (env : Env) {α β : Type} (Rv : Heap → Rho → α → β → Prop) (t : Value → Sem β) (f : AV → M α) : Prop :=
  ∀ (A : Around) (σ : St) (a : AV) (r : α) (σ' : St), AOk k A → f a σ = some (r, σ') → ∀ (ρ : Rho) (s : Shared) (Q : β → Shared → Prop) (E : Value → Shared → Prop) (va : Value), Rep C env ρ σ s.heap → VRel C.mC s.heap ρ a va →
    (∀ ρ' s' v, Rep C env ρ' σ' s'.heap → Sp env.locals ρ σ s ρ' σ' s' → Rv s'.heap ρ' r v → Q v s') → wpAny (model C.prog C.w) A (t va) Q E s
abbrev RV (C : Cx) : Heap → Rho → AV → Value → Prop := fun h ρ a v => VRel C.mC h ρ a v
abbrev RB : Heap → Rho → Bool → Bool → Prop := fun _ _ a b => b = a
abbrev RU : Heap → Rho → Unit → Unit → Prop := fun _ _ _ _ => True
abbrev RF (C : Cx) : Heap → Rho → Fl → Flow → Prop := fun h ρ a v => FRel C.mC h ρ a v
abbrev RVs (C : Cx) : Heap → Rho → List AV → List Value → Prop := fun h ρ a v => VRels C.mC h ρ a v
/-- a comparison's value -/
abbrev RC : Heap → Rho → Bool → Value → Prop := fun _ _ a v => v = .bool a

theorem AOk.mono {k k' : Nat} {A : Around} (h : AOk k A) (hk : k' ≤ k) : AOk k' A := ⟨h.1, by have := h.2.1; omega, by have := h.2.2; omega⟩
theorem Den.mono {α β : Type} {Rv : Heap → Rho → α → β → Prop} {t : Sem β} {m : M α} {k k' : Nat} (h : Den C k env Rv t m) (hk : k ≤ k') : Den C k' env Rv t m :=
  fun A σ a σ' hA hm => h A σ a σ' (hA.mono hk) hm

/-! expressions -/
theorem den_binop {l r : PySem.Expr} {op : Operator} {pos : Pos} {ml mr : M AV} {f : AV → AV → M AV} (hl : DV C k env (eval l env) ml) (hr : DV C k env (eval r env) mr) (ho : DO2 C k env (RV C) (binaryOp op) f) :
    DV C k env (eval (.BinOp l op r pos) env) (do let a ← ml; let b ← mr; f a b) := by
  intro A σ a σ' hA hm ρ s Q E R h
  obtain ⟨x, σ₁, h₁, hm⟩ := bind_some hm
  obtain ⟨y, σ₂, h₂, hm⟩ := bind_some hm
  refine wpAny_BinOp (hl A σ x σ₁ hA h₁ ρ s _ E R fun ρ₁ s₁ v₁ R₁ S₁ V₁ => ?_)
  refine hr A σ₁ y σ₂ hA h₂ ρ₁ s₁ _ E R₁ fun ρ₂ s₂ v₂ R₂ S₂ V₂ => ?_
  exact ho A σ₂ x y a σ' hA hm ρ₂ s₂ Q E v₁ v₂ R₂ (V₁.step S₂) V₂ fun ρ' s' v R' S' V' => h ρ' s' v R' ((S₁.trans S₂).trans S') V'
theorem den_cmpV {l r : PySem.Expr} {op : CmpOp} {pos : Pos} {ml mr : M AV} {f : AV → AV → M Bool} (hl : DV C k env (eval l env) ml) (hr : DV C k env (eval r env) mr) (ho : DO2 C k env RC (compareOp op) f)
    (hb : behindInMarks op r = false) : DV C k env (eval (.Compare l [op] [r] pos) env) (do let a ← ml; let b ← mr; let c ← f a b; pure (.bool c)) := by
  intro A σ a σ' hA hm ρ s Q E R h
  obtain ⟨x, σ₁, h₁, hm⟩ := bind_some hm
  obtain ⟨y, σ₂, h₂, hm⟩ := bind_some hm
  obtain ⟨c, σ₃, h₃, hm⟩ := bind_some hm
  obtain ⟨rfl, rfl⟩ := pure_some hm
  refine wpAny_Compare1 (hl A σ x σ₁ hA h₁ ρ s _ E R fun ρ₁ s₁ v₁ R₁ S₁ V₁ => ?_) hb
  refine hr A σ₁ y σ₂ hA h₂ ρ₁ s₁ _ E R₁ fun ρ₂ s₂ v₂ R₂ S₂ V₂ => ?_
  refine ho A σ₂ x y c _ hA h₃ ρ₂ s₂ Q E v₁ v₂ R₂ (V₁.step S₂) V₂ fun ρ' s' v R' S' V' => ?_
  subst V'
  exact h ρ' s' _ R' ((S₁.trans S₂).trans S') (.bool _)
theorem den_cmpB {l r : PySem.Expr} {op : CmpOp} {pos : Pos} {whole : Sem Value} {ml mr : M AV} {f : AV → AV → M Bool} (hl : DV C k env (eval l env) ml) (hr : DV C k env (eval r env) mr) (ho : DO2 C k env RC (compareOp op) f)
    (hb : behindInMarks op r = false) : DB C k env (isTrue (.Compare l [op] [r] pos) env whole) (do let a ← ml; let b ← mr; f a b) := by
  intro A σ a σ' hA hm ρ s Q E R h
  obtain ⟨x, σ₁, h₁, hm⟩ := bind_some hm
  obtain ⟨y, σ₂, h₂, hm⟩ := bind_some hm
  refine wpAny_isTrue_Compare1 (hl A σ x σ₁ hA h₁ ρ s _ E R fun ρ₁ s₁ v₁ R₁ S₁ V₁ => ?_) hb
  refine hr A σ₁ y σ₂ hA h₂ ρ₁ s₁ _ E R₁ fun ρ₂ s₂ v₂ R₂ S₂ V₂ => ?_
  refine ho A σ₂ x y a _ hA hm ρ₂ s₂ _ E v₁ v₂ R₂ (V₁.step S₂) V₂ fun ρ' s' v R' S' V' => ?_
  subst V'
  exact wpAny_truthy_bool (h ρ' s' _ R' ((S₁.trans S₂).trans S') rfl)
theorem den_truth {e : PySem.Expr} {m : M AV} {f : AV → M Bool} (he : DV C k env (eval e env) m) (hf : DO1 C k env RB truthy f)
    (hs : isTrue e env (eval e env) = (do let v ← eval e env; standAt e.pos; holding [v] (truthy v))) : DB C k env (isTrue e env (eval e env)) (do let a ← m; f a) := by
  intro A σ a σ' hA hm ρ s Q E R h
  obtain ⟨x, σ₁, h₁, hm⟩ := bind_some hm
  refine wpAny_isTrue_value (he A σ x σ₁ hA h₁ ρ s _ E R fun ρ₁ s₁ v₁ R₁ S₁ V₁ => ?_) hs
  exact hf A σ₁ x a σ' hA hm ρ₁ s₁ Q E v₁ R₁ V₁ fun ρ' s' v R' S' V' => h ρ' s' v R' (S₁.trans S') V'
theorem den_not {e : PySem.Expr} {pos : Pos} {whole : Sem Value} {m : M Bool} (he : DB C k env (isTrue e env (eval e env)) m) : DB C k env (isTrue (.UnaryOp .Not e pos) env whole) (do let b ← m; pure (!b)) := by
  intro A σ a σ' hA hm ρ s Q E R h
  obtain ⟨x, σ₁, h₁, hm⟩ := bind_some hm
  obtain ⟨rfl, rfl⟩ := pure_some hm
  exact wpAny_isTrue_Not (he A σ x _ hA h₁ ρ s _ E R fun ρ₁ s₁ v₁ R₁ S₁ V₁ => h ρ₁ s₁ _ R₁ S₁ (by rw [V₁]))
theorem den_boolop {op : BoolOp} {es : List PySem.Expr} {pos : Pos} {whole : Sem Value} {m : M Bool} (h : DB C k env (allTrue op es env) m) : DB C k env (isTrue (.BoolOp op es pos) env whole) m :=
  fun A σ a σ' hA hm ρ s Q E R hh => wpAny_isTrue_BoolOp (h A σ a σ' hA hm ρ s Q E R hh)
theorem den_and_nil : DB C k env (allTrue .And [] env) (pure true) := by
  intro A σ a σ' hA hm ρ s Q E R h
  obtain ⟨rfl, rfl⟩ := pure_some hm
  exact wpAny_allTrue_And_nil (h ρ s _ R (Sp.refl _ _ _ _) rfl)
theorem den_or_nil : DB C k env (allTrue .Or [] env) (pure false) := by
  intro A σ a σ' hA hm ρ s Q E R h
  obtain ⟨rfl, rfl⟩ := pure_some hm
  exact wpAny_allTrue_Or_nil (h ρ s _ R (Sp.refl _ _ _ _) rfl)
theorem den_and_cons {e : PySem.Expr} {es : List PySem.Expr} {m ms : M Bool} (he : DB C k env (isTrue e env (eval e env)) m) (hs : DB C k env (allTrue .And es env) ms) :
    DB C k env (allTrue .And (e :: es) env) (do let b ← m; if b then ms else pure false) := by
  intro A σ a σ' hA hm ρ s Q E R h
  obtain ⟨x, σ₁, h₁, hm⟩ := bind_some hm
  refine wpAny_allTrue_And_cons (he A σ x _ hA h₁ ρ s _ E R fun ρ₁ s₁ v₁ R₁ S₁ V₁ => ?_)
  rw [V₁]
  cases x with
  | true => exact hs A σ₁ a σ' hA hm ρ₁ s₁ Q E R₁ fun ρ' s' v R' S' V' => h ρ' s' v R' (S₁.trans S') V'
  | false => obtain ⟨rfl, rfl⟩ := pure_some hm; exact h ρ₁ s₁ _ R₁ S₁ rfl
theorem den_or_cons {e : PySem.Expr} {es : List PySem.Expr} {m ms : M Bool} (he : DB C k env (isTrue e env (eval e env)) m) (hs : DB C k env (allTrue .Or es env) ms) :
    DB C k env (allTrue .Or (e :: es) env) (do let b ← m; if b then pure true else ms) := by
  intro A σ a σ' hA hm ρ s Q E R h
  obtain ⟨x, σ₁, h₁, hm⟩ := bind_some hm
  refine wpAny_allTrue_Or_cons (he A σ x _ hA h₁ ρ s _ E R fun ρ₁ s₁ v₁ R₁ S₁ V₁ => ?_)
  rw [V₁]
  cases x with
  | false => exact hs A σ₁ a σ' hA hm ρ₁ s₁ Q E R₁ fun ρ' s' v R' S' V' => h ρ' s' v R' (S₁.trans S') V'
  | true => obtain ⟨rfl, rfl⟩ := pure_some hm; exact h ρ₁ s₁ _ R₁ S₁ rfl
theorem den_items_nil {pos : Pos} : DL C k env (spliced (backTo pos (starEach [] env))) (pure []) := by
  intro A σ a σ' hA hm ρ s Q E R h
  obtain ⟨rfl, rfl⟩ := pure_some hm
  exact wpAny_items_nil (h ρ s _ R (Sp.refl _ _ _ _) .nil)
theorem den_items_cons {pos : Pos} {e : PySem.Expr} {es : List PySem.Expr} {m : M AV} {ms : M (List AV)} (he : DV C k env (eval e env) m) (hs : DL C k env (spliced (backTo pos (starEach es env))) ms)
    (hst : starEach (e :: es) env = (false, eval e env) :: starEach es env) : DL C k env (spliced (backTo pos (starEach (e :: es) env))) (do let a ← m; let l ← ms; pure (a :: l)) := by
  intro A σ a σ' hA hm ρ s Q E R h
  obtain ⟨x, σ₁, h₁, hm⟩ := bind_some hm
  obtain ⟨y, σ₂, h₂, hm⟩ := bind_some hm
  obtain ⟨rfl, rfl⟩ := pure_some hm
  rw [hst]
  refine Calls.spliced_cons (he A σ x σ₁ hA h₁ ρ s _ E R fun ρ₁ s₁ v₁ R₁ S₁ V₁ => ?_)
  exact hs A σ₁ y _ hA h₂ ρ₁ s₁ _ E R₁ fun ρ₂ s₂ v₂ R₂ S₂ V₂ => h ρ₂ s₂ _ R₂ (S₁.trans S₂) (.cons (V₁.step S₂) V₂)
def tupM (l : List AV) : M AV := fun σ => if l.length ≤ 64 then some (.tup l, σ) else none
theorem VRels.length {mC : Addr} {h : Heap} {ρ : Rho} : ∀ {l : List AV} {vs : List Value}, VRels mC h ρ l vs → l.length = vs.length
  | _, _, .nil => rfl
  | _, _, .cons _ r => by simp only [List.length_cons, VRels.length r]
theorem den_tuple {elts : List PySem.Expr} {kk : Nat} {pos : Pos} {ms : M (List AV)} (hs : DL C k env (spliced (backTo pos (starEach elts env))) ms) : DV C k env (eval (.Tuple elts kk pos) env) (do let l ← ms; tupM l) := by
  intro A σ a σ' hA hm ρ s Q E R h
  obtain ⟨x, σ₁, h₁, hm⟩ := bind_some hm
  unfold tupM at hm
  split at hm
  · rename_i hlen
    cases hm
    refine wpAny_Tuple (hs A σ x _ hA h₁ ρ s _ E R fun ρ₁ s₁ v₁ R₁ S₁ V₁ => ⟨?_, ?_⟩)
    · rw [← V₁.length, sizeLine_eq]; omega
    · refine h ρ₁ _ _ (R₁.push _) (S₁.trans (Sp.push _ _)) (.tup (its := v₁) (Heap.get?_push_size _ rfl) ?_)
      exact V₁.mono (fun b o e _ => Heap.get?_push_of_some _ e) (fun _ _ e => e)
  · cases hm
def allocM (o : AO) : M AV := fun σ => some (.ref σ.hp.length, { σ with hp := σ.hp ++ [o] })
theorem den_list {elts : List PySem.Expr} {pos : Pos} {ms : M (List AV)} (hs : DL C k env (spliced (backTo pos (starEach elts env))) ms) : DV C k env (eval (.List elts pos) env) (do let l ← ms; (fun σ => if l.length ≤ 64 then allocM (.list l) σ else none : M AV)) := by
  intro A σ a σ' hA hm ρ s Q E R h
  obtain ⟨x, σ₁, h₁, hm⟩ := bind_some hm
  replace hm : (if x.length ≤ 64 then allocM (.list x) σ₁ else none) = some (a, σ') := hm
  split at hm
  · rename_i hlen
    cases hm
    refine wpAny_List_spliced (hs A σ x _ hA h₁ ρ s _ E R fun ρ₁ s₁ v₁ R₁ S₁ V₁ => ⟨?_, ?_⟩)
    · rw [← V₁.length, sizeLine_eq]; omega
    · have e : ∀ (n : Nat) q, ρ₁[n]? = some q → (ρ₁ ++ [(s₁.heap.objs.size, s₁.heap.objs.size)])[n]? = some q := fun n q e => by rw [List.getElem?_append_left (List.getElem?_eq_some_iff.mp e).1]; exact e
      refine h _ _ _ (R₁.alloc _ (.list x) R₁.lsize ⟨rfl, v₁, ⟨0, Heap.get?_push_size _ rfl⟩, V₁.mono (fun b o e _ => Heap.get?_push_of_some _ e) e⟩) (S₁.trans (Sp.alloc _ _ _)) (.ref (d := s₁.heap.objs.size) ?_)
      rw [← R₁.len, List.getElem?_append_right (Nat.le_refl _), Nat.sub_self]; rfl
  · cases hm

/-! statements -/
theorem ds_nil : DS C k env (execs [] env) (pure .next) := by
  intro A σ a σ' hA hm ρ s Q E R h
  obtain ⟨rfl, rfl⟩ := pure_some hm
  exact wpAny_execs_nil (h ρ s _ R (Sp.refl _ _ _ _) .next)
def thenM (f : Fl) (m : M Fl) : M Fl := match f with
  | .next => m
  | .brk => pure .brk
  | .cont => pure .cont
  | .ret v => pure (.ret v)
theorem ds_cons {st : Stmt} {rest : List Stmt} {m ms : M Fl} (h1 : DS C k env (exec st env) m) (h2 : DS C k env (execs rest env) ms) : DS C k env (execs (st :: rest) env) (do let f ← m; thenM f ms) := by
  intro A σ a σ' hA hm ρ s Q E R h
  obtain ⟨x, σ₁, hx, hm⟩ := bind_some hm
  refine wpAny_execs_cons (h1 A σ x σ₁ hA hx ρ s _ E R fun ρ₁ s₁ v₁ R₁ S₁ V₁ => ?_)
  cases V₁ with
  | next => exact h2 A σ₁ a σ' hA hm ρ₁ s₁ Q E R₁ fun ρ' s' v R' S' V' => h ρ' s' v R' (S₁.trans S') V'
  | brk => obtain ⟨rfl, rfl⟩ := pure_some hm; exact h ρ₁ s₁ _ R₁ S₁ .brk
  | cont => obtain ⟨rfl, rfl⟩ := pure_some hm; exact h ρ₁ s₁ _ R₁ S₁ .cont
  | ret V => obtain ⟨rfl, rfl⟩ := pure_some hm; exact h ρ₁ s₁ _ R₁ S₁ (.ret V)
theorem ds_if {test : PySem.Expr} {body orelse : List Stmt} {pos : Pos} {mt : M Bool} {mb mo : M Fl} (ht : DB C k env (isTrue test env (eval test env)) mt) (hb : DS C k env (execs body env) mb) (ho : DS C k env (execs orelse env) mo) :
    DS C k env (exec (.If test body orelse pos) env) (do let b ← mt; if b then mb else mo) := by
  intro A σ a σ' hA hm ρ s Q E R h
  obtain ⟨x, σ₁, hx, hm⟩ := bind_some hm
  refine wpAny_If (ht A σ x σ₁ hA hx ρ s _ E R fun ρ₁ s₁ v₁ R₁ S₁ V₁ => ?_)
  rw [V₁]
  cases x with
  | true => exact hb A σ₁ a σ' hA hm ρ₁ s₁ Q E R₁ fun ρ' s' v R' S' V' => h ρ' s' v R' (S₁.trans S') V'
  | false => exact ho A σ₁ a σ' hA hm ρ₁ s₁ Q E R₁ fun ρ' s' v R' S' V' => h ρ' s' v R' (S₁.trans S') V'
theorem ds_return {e : PySem.Expr} {pos : Pos} {m : M AV} (he : DV C k env (eval e env) m) : DS C k env (exec (.Return (some e) pos) env) (do let a ← m; pure (.ret a)) := by
  intro A σ a σ' hA hm ρ s Q E R h
  obtain ⟨x, σ₁, hx, hm⟩ := bind_some hm
  obtain ⟨rfl, rfl⟩ := pure_some hm
  exact wpAny_Return_some (he A σ x _ hA hx ρ s _ E R fun ρ₁ s₁ v₁ R₁ S₁ V₁ => h ρ₁ s₁ _ R₁ S₁ (.ret V₁))
theorem ds_return_none {pos : Pos} : DS C k env (exec (.Return none pos) env) (pure (.ret .none)) := by
  intro A σ a σ' hA hm ρ s Q E R h
  obtain ⟨rfl, rfl⟩ := pure_some hm
  exact wpAny_Return_none (h ρ s _ R (Sp.refl _ _ _ _) (.ret .none))
theorem ds_continue {pos : Pos} : DS C k env (exec (.Continue pos) env) (pure .cont) := by
  intro A σ a σ' hA hm ρ s Q E R h
  obtain ⟨rfl, rfl⟩ := pure_some hm
  exact wpAny_Continue (h ρ s _ R (Sp.refl _ _ _ _) .cont)
theorem ds_break {pos : Pos} : DS C k env (exec (.Break pos) env) (pure .brk) := by
  intro A σ a σ' hA hm ρ s Q E R h
  obtain ⟨rfl, rfl⟩ := pure_some hm
  exact wpAny_Break (h ρ s _ R (Sp.refl _ _ _ _) .brk)
def stM (i : Nat) (v : AV) : M Unit := fun σ => some ((), { σ with lc := σ.lc.set i (some v) })
theorem store_local {x : Str} (i : Nat) (hi : env.scope.names[i]? = some (x, .local)) : DO1 C k env RU (storeName env x) (stM i) := by
  intro A σ a r σ' hA hm ρ s Q E v R V h
  cases hm
  obtain ⟨m, hns, hsl⟩ := R.ns
  refine wpAny_storeName_local (lookup_of_nth R.names hi) hns (fun h' hn hs => ?_) ?_
  · exact h ρ _ () (R.stloc hi V hns hsl hn hs) (Sp.same (σ := σ) (σ' := { σ with lc := σ.lc.set i (some a) }) (.inl rfl) hs (notFrozen_ns hns) (let ⟨o, _, _, p, _⟩ := hn; ⟨o, p⟩) (fun _ h => h) _) trivial
  · show (env.scope.kind == .class || (env.scope.kind == .module && env.locals != env.globals)) = false
    rw [R.kind]; rfl
theorem da_name {x : Str} {pos : Pos} (i : Nat) (hi : env.scope.names[i]? = some (x, .local)) : DO1 C k env RU (assign (.Name x pos) env) (stM i) :=
  fun A σ a r σ' hA hm ρ s Q E v R V h => wpAny_assign_Name (store_local i hi A σ a r σ' hA hm ρ s Q E v R V h)
theorem ds_assign {t value : PySem.Expr} {pos : Pos} {m : M AV} {f : AV → M Unit} (he : DV C k env (eval value env) m) (hf : DO1 C k env RU (assign t env) f)
    (hs : swapsWithSole [t] value pos.line env = pure false) (hw : swappedStores [t] value env = pure none) (ht : (assignEach [t] env).map (·.2) = [assign t env]) :
    DS C k env (exec (.Assign [t] value pos) env) (do let a ← m; f a; pure .next) := by
  intro A σ a σ' hA hm ρ s Q E R h
  obtain ⟨x, σ₁, hx, hm⟩ := bind_some hm
  obtain ⟨u, σ₂, hu, hm⟩ := bind_some hm
  obtain ⟨rfl, rfl⟩ := pure_some hm
  refine wpAny_Assign_stores (he A σ x σ₁ hA hx ρ s _ E R fun ρ₁ s₁ v₁ R₁ S₁ V₁ => ?_) hs hw
  rw [ht]
  exact hf A σ₁ x u _ hA hu ρ₁ s₁ _ E v₁ R₁ V₁ fun ρ₂ s₂ _ R₂ S₂ _ => h ρ₂ s₂ _ R₂ (S₁.trans S₂) .next
theorem ds_assign2 {t₁ t₂ value : PySem.Expr} {pos : Pos} {m : M AV} {f₁ f₂ : AV → M Unit} (he : DV C k env (eval value env) m) (hf₁ : DO1 C k env RU (assign t₁ env) f₁) (hf₂ : DO1 C k env RU (assign t₂ env) f₂)
    (hs : swapsWithSole [t₁, t₂] value pos.line env = pure false) (hw : swappedStores [t₁, t₂] value env = pure none) (ht : (assignEach [t₁, t₂] env).map (·.2) = [assign t₁ env, assign t₂ env]) :
    DS C k env (exec (.Assign [t₁, t₂] value pos) env) (do let a ← m; f₁ a; f₂ a; pure .next) := by
  intro A σ a σ' hA hm ρ s Q E R h
  obtain ⟨x, σ₁, hx, hm⟩ := bind_some hm
  obtain ⟨u, σ₂, hu, hm⟩ := bind_some hm
  obtain ⟨u', σ₃, hu', hm⟩ := bind_some hm
  obtain ⟨rfl, rfl⟩ := pure_some hm
  refine wpAny_Assign_stores (he A σ x σ₁ hA hx ρ s _ E R fun ρ₁ s₁ v₁ R₁ S₁ V₁ => ?_) hs hw
  rw [ht]
  show wpAny _ _ (do holding [v₁] (assign t₁ env v₁); assignAll v₁ [assign t₂ env]) _ _ _
  refine wpAny_bind (wpAny_holding (hf₁ A σ₁ x u _ hA hu ρ₁ s₁ _ E v₁ R₁ V₁ fun ρ₂ s₂ _ R₂ S₂ _ => ?_))
  exact hf₂ A σ₂ x u' _ hA hu' ρ₂ s₂ _ E v₁ R₂ (V₁.step S₂) fun ρ₃ s₃ _ R₃ S₃ _ => h ρ₃ s₃ _ R₃ ((S₁.trans S₂).trans S₃) .next
theorem ds_assign3 {t₁ t₂ t₃ value : PySem.Expr} {pos : Pos} {m : M AV} {f₁ f₂ f₃ : AV → M Unit} (he : DV C k env (eval value env) m) (hf₁ : DO1 C k env RU (assign t₁ env) f₁) (hf₂ : DO1 C k env RU (assign t₂ env) f₂) (hf₃ : DO1 C k env RU (assign t₃ env) f₃)
    (hs : swapsWithSole [t₁, t₂, t₃] value pos.line env = pure false) (hw : swappedStores [t₁, t₂, t₃] value env = pure none) (ht : (assignEach [t₁, t₂, t₃] env).map (·.2) = [assign t₁ env, assign t₂ env, assign t₃ env]) :
    DS C k env (exec (.Assign [t₁, t₂, t₃] value pos) env) (do let a ← m; f₁ a; f₂ a; f₃ a; pure .next) := by
  intro A σ a σ' hA hm ρ s Q E R h
  obtain ⟨x, σ₁, hx, hm⟩ := bind_some hm
  obtain ⟨u, σ₂, hu, hm⟩ := bind_some hm
  obtain ⟨u', σ₃, hu', hm⟩ := bind_some hm
  obtain ⟨u'', σ₄, hu'', hm⟩ := bind_some hm
  obtain ⟨rfl, rfl⟩ := pure_some hm
  refine wpAny_Assign_stores (he A σ x σ₁ hA hx ρ s _ E R fun ρ₁ s₁ v₁ R₁ S₁ V₁ => ?_) hs hw
  rw [ht]
  show wpAny _ _ (do holding [v₁] (assign t₁ env v₁); holding [v₁] (assign t₂ env v₁); assignAll v₁ [assign t₃ env]) _ _ _
  refine wpAny_bind (wpAny_holding (hf₁ A σ₁ x u _ hA hu ρ₁ s₁ _ E v₁ R₁ V₁ fun ρ₂ s₂ _ R₂ S₂ _ => ?_))
  refine wpAny_bind (wpAny_holding (hf₂ A σ₂ x u' _ hA hu' ρ₂ s₂ _ E v₁ R₂ (V₁.step S₂) fun ρ₃ s₃ _ R₃ S₃ _ => ?_))
  exact hf₃ A σ₃ x u'' _ hA hu'' ρ₃ s₃ _ E v₁ R₃ ((V₁.step S₂).step S₃) fun ρ₄ s₄ _ R₄ S₄ _ => h ρ₄ s₄ _ R₄ (((S₁.trans S₂).trans S₃).trans S₄) .next
theorem ds_aug_name {x : Str} {op : Operator} {value : PySem.Expr} {npos pos : Pos} {m : M AV} {f : AV → AV → M AV} (i : Nat) (hi : env.scope.names[i]? = some (x, .local)) (he : DV C k env (eval value env) m) (hf : DO2 C k env (RV C) (inplaceOp op) f) :
    DS C k env (exec (.AugAssign (.Name x npos) op value pos) env) (do let a ← ldM i; let b ← m; let c ← f a b; stM i c; pure .next) := by
  intro A σ a σ' hA hm ρ s Q E R h
  obtain ⟨x₁, σ₁, h₁, hm⟩ := bind_some hm
  obtain ⟨x₂, σ₂, h₂, hm⟩ := bind_some hm
  obtain ⟨x₃, σ₃, h₃, hm⟩ := bind_some hm
  obtain ⟨u, σ₄, h₄, hm⟩ := bind_some hm
  obtain ⟨rfl, rfl⟩ := pure_some hm
  obtain ⟨rfl, hv⟩ := ldM_some h₁
  obtain ⟨mm, hns, hs⟩ := R.ns
  obtain ⟨y, kk, hy, hh⟩ := hs i _ hv
  rw [hi] at hy
  cases hy
  rcases hh with ⟨_, v, hmv, hV⟩ | ⟨hk, _⟩
  · refine wpAny_AugAssign_Name (wpAny_loadName_local R.kind (lookup_of_nth R.names hi) hns hmv ?_)
    refine he A σ x₂ σ₂ hA h₂ ρ s _ E R fun ρ₁ s₁ v₁ R₁ S₁ V₁ => ?_
    refine hf A σ₂ x₁ x₂ x₃ σ₃ hA h₃ ρ₁ s₁ _ E v v₁ R₁ (hV.step S₁) V₁ fun ρ₂ s₂ v₂ R₂ S₂ V₂ => ?_
    exact store_local i hi A σ₃ x₃ u _ hA h₄ ρ₂ s₂ _ E v₂ R₂ V₂ fun ρ₃ s₃ _ R₃ S₃ _ => h ρ₃ s₃ _ R₃ ((S₁.trans S₂).trans S₃) .next
  · rcases hk with hk | hk <;> cases hk
end
end Mine

open PySem PySem.W PyProof.Rows
set_option Elab.async false
set_option maxRecDepth 100000
set_option maxHeartbeats 1000000
set_option linter.unusedVariables false
namespace Mine
section
variable {C : Cx} {k : Nat} {env : Env}
/-! while -/
def whileM : Nat → M Bool → M Fl → M Fl
  | 0, _, _ => fun _ => none
  | n + 1, c, b => do
    let t ← c
    if t then do
      let f ← b
      match f with
      | .next => whileM n c b
      | .cont => whileM n c b
      | .brk => pure .next
      | .ret v => pure (.ret v)
    else pure .next
theorem ds_while {test : PySem.Expr} {body : List Stmt} {pos : Pos} {mt : M Bool} {mb : M Fl} (n : Nat) (ht : DB C k env (isTrue test env (eval test env)) mt) (hb : DS C k env (execs body env) mb) :
    DS C k env (exec (.While test body [] pos) env) (whileM n mt mb) := by
  intro A σ a σ' hA hm ρ s Q E R h
  refine wpAny_While (codeAny_whileLoop (fun n s₁ => ∃ σ₁ ρ₁, whileM n mt mb σ₁ = some (a, σ') ∧ Rep C env ρ₁ σ₁ s₁.heap ∧ Sp env.locals ρ σ s ρ₁ σ₁ s₁) (fun n s₁ hI => ?_) n ⟨σ, ρ, hm, R, Sp.refl _ _ _ _⟩)
  obtain ⟨σ₁, ρ₁, hm, R₁, S₁⟩ := hI
  cases n with
  | zero => cases hm
  | succ n =>
    replace hm : (do
      let t ← mt
      if t then do
        let f ← mb
        match f with
        | .next => whileM n mt mb
        | .cont => whileM n mt mb
        | .brk => pure .next
        | .ret v => pure (.ret v)
      else pure .next : M Fl) σ₁ = some (a, σ') := hm
    obtain ⟨t, σ₂, h₂, hm⟩ := bind_some hm
    refine ht A σ₁ t σ₂ hA h₂ ρ₁ s₁ _ _ R₁ fun ρ₂ s₂ b R₂ S₂ hb' => ?_
    rw [hb']
    cases t with
    | false =>
      obtain ⟨rfl, rfl⟩ := pure_some hm
      exact wpAny_execs_nil (h ρ₂ s₂ _ R₂ (S₁.trans S₂) .next)
    | true =>
      obtain ⟨f, σ₃, h₃, hm⟩ := bind_some hm
      refine hb A σ₂ f σ₃ hA h₃ ρ₂ s₂ _ _ R₂ fun ρ₃ s₃ v R₃ S₃ V₃ => ?_
      cases V₃ with
      | next => exact ⟨n, Nat.lt_succ_self n, σ₃, ρ₃, hm, R₃, (S₁.trans S₂).trans S₃⟩
      | cont => exact ⟨n, Nat.lt_succ_self n, σ₃, ρ₃, hm, R₃, (S₁.trans S₂).trans S₃⟩
      | brk => obtain ⟨rfl, rfl⟩ := pure_some hm; exact h ρ₃ s₃ _ R₃ ((S₁.trans S₂).trans S₃) .next
      | ret V => obtain ⟨rfl, rfl⟩ := pure_some hm; exact h ρ₃ s₃ _ R₃ ((S₁.trans S₂).trans S₃) (.ret V)

/-! for: what is walked over -/
inductive Src where
  | list (n i : Nat)
  | fixed (l : List AV)
  | range (x : Int) (left : Nat)
  | enum (n i : Nat)
def nxtM : Src → M (Option (AV × Src))
  | .list n i => fun σ => match σ.hp[n]? with
    | some (.list l) => (match l[i]? with
      | some a => some (some (a, .list n (i + 1)), σ)
      | none => some (none, σ))
    | _ => none
  | .fixed [] => pure none
  | .fixed (a :: l) => pure (some (a, .fixed l))
  | .range x 0 => pure none
  | .range x (n + 1) => pure (some (.int x, .range (x + 1) n))
  | .enum n i => fun σ => match σ.hp[n]? with
    | some (.list l) => (match l[i]? with
      | some a => some (some (.tup [.int i, a], .enum n (i + 1)), σ)
      | none => some (none, σ))
    | _ => none
def forM' : Nat → Src → (AV → M Unit) → M Fl → M Fl
  | 0, _, _, _ => fun _ => none
  | n + 1, g, st, b => do
    let r ← nxtM g
    match r with
    | none => pure .next
    | some (a, g') => do
      st a
      let f ← b
      match f with
      | .next => forM' n g' st b
      | .cont => forM' n g' st b
      | .brk => pure .next
      | .ret v => pure (.ret v)
def ItR (C : Cx) (h : Heap) (ρ : Rho) (it : Nat) (its : List Nat) : Src → Prop
  | .list n i => its = [it] ∧ ∃ l, ρ[n]? = some (l, l) ∧ h.IsListIter it l i
  | .fixed l => its = [it] ∧ ∃ t i items, h.get? t = some { cls := .type "tuple", data := .seq items } ∧ h.IsTupleIter it t i ∧ VRels C.mC h ρ l (items.toList.drop i)
  | .range x left => its = [it] ∧ IsRangeIter h it x left 1
  | .enum n i => ∃ it2 l old, its = [it, it2] ∧ it ≠ it2 ∧ ρ[n]? = some (l, l) ∧ h.IsListIter it2 l i ∧ IsEnum h it it2 i old
def ItOut (C : Cx) (h : Heap) (ρ : Rho) (it : Nat) (its : List Nat) (v : Value) : Src → Prop
  | .enum n i => ∃ it2 l x a, its = [it, it2] ∧ it ≠ it2 ∧ ρ[n]? = some (l, l) ∧ h.IsListIter it2 l i ∧ IsEnumOut h it it2 i x a ∧ v = .ref a
  | g => ItR C h ρ it its g

/-- the loop's own objects turn, nothing else -/
theorem Rep.its {ρ : Rho} {σ : St} {h h' : Heap} (R : Rep C env ρ σ h) {its : List Nat} (hk : ∀ b o, b ∉ its → h.get? b = some o → h'.get? b = some o) (hL : env.locals ∉ its) (hh : ∀ b ∈ its, C.h₀.get? b = none)
    (hr : ∀ (m a d : Nat), ρ[m]? = some (a, d) → a ∉ its ∧ d ∉ its) (hnf : ∀ b ∈ its, ∀ o, h.get? b = some o → ¬ Frozen o) : Rep C env ρ σ h' :=
  R.move (fun b o e e' => hk b o (fun hb => by rw [hh b hb] at e; cases e) e') (fun b o e hf => hk b o (fun hb => hnf b hb o e hf) e)
    (fun b o hb e => by
      refine hk b o ?_ e
      rcases hb with ⟨m, a, d, hm, rfl | rfl⟩ | rfl
      · exact (hr m _ _ hm).1
      · exact (hr m _ _ hm).2
      · exact hL)
theorem Sp.its {L : Addr} {ρ₀ ρ : Rho} {σ₀ σ : St} {s₀ s s' : Shared} (S : Sp L ρ₀ σ₀ s₀ ρ σ s) {its : List Nat} (hi : ∀ b ∈ its, s₀.heap.get? b = none) (hk : ∀ b o, b ∉ its → s.heap.get? b = some o → s'.heap.get? b = some o)
    (hos : s'.os = s.os) (hg : s'.gens = s.gens) : Sp L ρ₀ σ₀ s₀ ρ σ s' where
  ext := S.ext
  keep := fun b o e h1 h2 => hk b o (fun hb => by rw [hi b hb] at e; cases e) (S.keep b o e h1 h2)
  frz := fun b o e hf => hk b o (fun hb => by rw [hi b hb] at e; cases e) (S.frz b o e hf)
  new := S.new
  live := fun b o e => let ⟨o', e'⟩ := S.live b o e; ⟨o', hk b o' (fun hb => by rw [hi b hb] at e; cases e) e'⟩
  lock := S.lock
  os := hos.trans S.os
  gens := fun h => by rw [hg]; exact S.gens h
theorem ItR.notFrozen {h : Heap} {ρ : Rho} {it : Nat} {its : List Nat} {g : Src} (x : ItR C h ρ it its g) : ∀ b ∈ its, ∀ o, h.get? b = some o → ¬ Frozen o := by
  intro b hb o e hf
  cases g with
  | list n i => obtain ⟨rfl, l, _, o', p, hc, hd⟩ := x; obtain rfl : b = it := by simpa using hb
                rw [p] at e; cases e; simp [Frozen, hc, hd] at hf
  | fixed l => obtain ⟨rfl, t, i, items, _, ⟨o', p, hc, hd⟩, _⟩ := x; obtain rfl : b = it := by simpa using hb
               rw [p] at e; cases e; simp [Frozen, hc, hd] at hf
  | range y left => obtain ⟨rfl, p⟩ := x; obtain rfl : b = it := by simpa using hb
                    rw [p] at e; cases e; simp [Frozen] at hf
  | enum n i =>
    obtain ⟨it2, l, old, rfl, _, _, ⟨o', p, hc, hd⟩, q⟩ := x
    have hb' : b = it ∨ b = it2 := by simpa using hb
    rcases hb' with rfl | rfl
    · rw [q] at e; cases e; simp [Frozen] at hf
    · rw [p] at e; cases e; simp [Frozen, hc, hd] at hf
theorem ItR.keep {h h' : Heap} {ρ ρ' : Rho} {it : Nat} {its : List Nat} {g : Src} (x : ItR C h ρ it its g) (hk : ∀ b ∈ its, ∀ o, h.get? b = some o → h'.get? b = some o) (hf : ∀ b o, h.get? b = some o → Frozen o → h'.get? b = some o)
    (he : ∀ (n : Nat) q, ρ[n]? = some q → ρ'[n]? = some q) : ItR C h' ρ' it its g := by
  cases g with
  | list n i => obtain ⟨rfl, l, hr, o', p, hc, hd⟩ := x; exact ⟨rfl, l, he _ _ hr, o', hk _ (by simp) _ p, hc, hd⟩
  | fixed l => obtain ⟨rfl, t, i, items, ht, ⟨o', p, hc, hd⟩, V⟩ := x; exact ⟨rfl, t, i, items, hf _ _ ht (by simp [Frozen]), ⟨o', hk _ (by simp) _ p, hc, hd⟩, V.mono hf he⟩
  | range y left => obtain ⟨rfl, p⟩ := x; exact ⟨rfl, hk _ (by simp) _ p⟩
  | enum n i =>
    obtain ⟨it2, l, old, rfl, hne, hr, ⟨o', p, hc, hd⟩, q⟩ := x
    exact ⟨it2, l, old, rfl, hne, he _ _ hr, ⟨o', hk _ (by simp) _ p, hc, hd⟩, hk _ (by simp) _ q⟩
theorem ItR.live {h : Heap} {ρ : Rho} {it : Nat} {its : List Nat} {g : Src} (x : ItR C h ρ it its g) : ∀ b ∈ its, ∃ o, h.get? b = some o := by
  intro b hb
  cases g with
  | list n i => obtain ⟨rfl, l, _, o', p, hc, hd⟩ := x; obtain rfl : b = it := by simpa using hb
                exact ⟨_, p⟩
  | fixed l => obtain ⟨rfl, t, i, items, _, ⟨o', p, hc, hd⟩, _⟩ := x; obtain rfl : b = it := by simpa using hb
               exact ⟨_, p⟩
  | range y left => obtain ⟨rfl, p⟩ := x; obtain rfl : b = it := by simpa using hb
                    exact ⟨_, p⟩
  | enum n i =>
    obtain ⟨it2, l, old, rfl, _, _, ⟨o', p, hc, hd⟩, q⟩ := x
    have hb' : b = it ∨ b = it2 := by simpa using hb
    rcases hb' with rfl | rfl
    · exact ⟨_, q⟩
    · exact ⟨_, p⟩
theorem VRels.get {mC : Addr} {h : Heap} {ρ : Rho} : ∀ {l : List AV} {vs : List Value}, VRels mC h ρ l vs → ∀ (i : Nat), (∀ a, l[i]? = some a → ∃ v, vs[i]? = some v ∧ VRel mC h ρ a v) ∧ (l[i]? = none → vs[i]? = none)
  | _, _, .nil, i => ⟨fun a e => by simp at e, fun _ => by simp⟩
  | _, _, .cons (v := v) x r, 0 => ⟨fun a e => by simp only [List.getElem?_cons_zero, Option.some.injEq] at e; subst e; exact ⟨v, by simp, x⟩, fun e => by simp at e⟩
  | _, _, .cons x r, i + 1 => by simpa only [List.getElem?_cons_succ] using VRels.get r i
/-- one turn's item -/
theorem src_next {A : Around} {σ : St} {g : Src} {r : Option (AV × Src)} {σ' : St} (hA : AOk k A) (hm : nxtM g σ = some (r, σ')) {ρ : Rho} {s : Shared} {Q : Option Value → Shared → Prop} {E : Value → Shared → Prop} {it : Nat} {its : List Nat}
    (R : Rep C env ρ σ s.heap) (I : ItR C s.heap ρ it its g)
    (h : σ' = σ → ∀ s' v, (∀ b o, b ∉ its → s.heap.get? b = some o → s'.heap.get? b = some o) → s'.os = s.os → s'.gens = s.gens →
      (match (motive := Option (AV × Src) → Prop) r with
        | none => v = none
        | some (a, g') => ∃ x, v = some x ∧ VRel C.mC s'.heap ρ a x ∧ ItOut C s'.heap ρ it its x g' ∧ s'.heap.get? it ≠ none) → Q v s') : wpAny (model C.prog C.w) A (pyNext (.ref it)) Q E s := by
  cases g with
  | list n i =>
    obtain ⟨rfl, l, hr, hit⟩ := I
    have hm' : (match σ.hp[n]? with
      | some (.list l) => (match l[i]? with
        | some a => some (some (a, Src.list n (i + 1)), σ)
        | none => some (none, σ))
      | _ => none) = some (r, σ') := hm
    split at hm'
    · rename_i l' hl'
      obtain ⟨a, d, hq, rfl, items, ⟨ep, hp⟩, V⟩ := R.at hl'
      rw [hr] at hq; cases hq
      have hlist : s.heap.IsList l items.toArray := ⟨_, hp, rfl, _, rfl⟩
      split at hm'
      · rename_i a ha
        cases hm'
        obtain ⟨x, hx, hV⟩ := (V.get i).1 a ha
        refine wpAny_pyNext_list_item hit hlist (x := x) (by simpa using hx) fun h' hit' hs => ?_
        have hne : ∀ b o, b ∉ [it] → s.heap.get? b = some o → h'.get? b = some o := fun b o hb e => by rw [hs.2 b (by simpa using hb)]; exact e
        refine h rfl _ _ hne rfl rfl ⟨x, rfl, hV.mono (fun b o e hf => hne b o ?_ e) (fun _ _ e => e), ⟨rfl, l, hr, hit'⟩, ?_⟩
        · intro hb
          obtain rfl : b = it := by simpa using hb
          obtain ⟨o', p, hc, hd⟩ := hit
          rw [p] at e; cases e; simp [Frozen, hc, hd] at hf
        · obtain ⟨o', p, _⟩ := hit'; rw [p]; simp
      · rename_i ha
        cases hm'
        refine wpAny_pyNext_list_end hA.1 hit hlist (by simpa using (V.get i).2 ha) fun h' hs => ?_
        exact h rfl _ _ (fun b o hb e => hs b o (by simpa using hb) e) rfl rfl rfl
    · cases hm'
  | fixed l =>
    obtain ⟨rfl, t, i, items, ht, hit, V⟩ := I
    have htup : s.heap.IsTuple t items := ⟨_, ht, rfl, _, rfl⟩
    cases l with
    | nil =>
      cases hm
      have hx : items[i]? = none := by
        have := (V.get 0).2 (by simp)
        rw [List.getElem?_drop] at this
        simpa using this
      exact wpAny_pyNext_tuple_end hA.1 hit htup hx fun h' hs => h rfl _ _ (fun b o hb e => hs b o (by simpa using hb) e) rfl rfl rfl
    | cons a l =>
      cases hm
      obtain ⟨x, hx, hV⟩ := (V.get 0).1 a (by simp)
      rw [List.getElem?_drop] at hx
      refine wpAny_pyNext_tuple_item hit htup (x := x) (by simpa using hx) fun h' hit' hs => ?_
      have hne : ∀ b o, b ∉ [it] → s.heap.get? b = some o → h'.get? b = some o := fun b o hb e => by rw [hs.2 b (by simpa using hb)]; exact e
      have hfz : ∀ b o, s.heap.get? b = some o → Frozen o → h'.get? b = some o := fun b o e hf => hne b o (fun hb => by
        obtain rfl : b = it := by simpa using hb
        obtain ⟨o', p, hc, hd⟩ := hit
        rw [p] at e; cases e; simp [Frozen, hc, hd] at hf) e
      refine h rfl _ _ hne rfl rfl ⟨x, rfl, hV.mono hfz (fun _ _ e => e), ⟨rfl, t, i + 1, items, hfz _ _ ht (by simp [Frozen]), hit', ?_⟩, ?_⟩
      · have V' := VRels.mono hfz (fun _ _ e => e) V (ρ' := ρ)
        have e : items.toList.drop i = x :: items.toList.drop (i + 1) := by
          have := List.getElem?_eq_some_iff.mp (show items.toList[i]? = some x by simpa using hx)
          obtain ⟨h1, h2⟩ := this
          rw [List.drop_eq_getElem_cons h1, h2]
        rw [e] at V'
        cases V' with
        | cons _ r => exact r
      · obtain ⟨o', p, _⟩ := hit'; rw [p]; simp
  | range y left =>
    obtain ⟨rfl, hit⟩ := I
    cases left with
    | zero =>
      cases hm
      exact wpAny_pyNext_range_end hA.1 hit (by simp) fun h' hs => h rfl _ _ (fun b o hb e => hs b o (by simpa using hb) e) rfl rfl rfl
    | succ left =>
      cases hm
      refine wpAny_pyNext_range_item hit (by omega) fun h' hit' hs => ?_
      refine h rfl _ _ (fun b o hb e => by show h'.get? b = _; rw [hs.2 b (by simpa using hb)]; exact e) rfl rfl ⟨_, rfl, .int _ _, ⟨rfl, ?_⟩, ?_⟩
      · have e : ((left + 1 : Nat) : Int) - 1 = (left : Int) := by omega
        rw [e] at hit'; exact hit'
      · show h'.get? it ≠ none
        rw [hit']; simp
  | enum n i =>
    obtain ⟨it2, l, old, rfl, hne2, hr, hit, he⟩ := I
    have hm' : (match σ.hp[n]? with
      | some (.list l) => (match l[i]? with
        | some a => some (some (AV.tup [.int i, a], Src.enum n (i + 1)), σ)
        | none => some (none, σ))
      | _ => none) = some (r, σ') := hm
    split at hm'
    · rename_i l' hl'
      obtain ⟨a, d, hq, rfl, items, ⟨ep, hp⟩, V⟩ := R.at hl'
      rw [hr] at hq; cases hq
      have hlist : s.heap.IsList l items.toArray := ⟨_, hp, rfl, _, rfl⟩
      split at hm'
      · rename_i a ha
        cases hm'
        obtain ⟨x, hx, hV⟩ := (V.get i).1 a ha
        refine wpAny_pyNext_enum_item he hit hlist (x := x) (by simpa using hx) hne2 fun h' hout hit' htup hsz hs => ?_
        have hne : ∀ b o, b ∉ [it, it2] → s.heap.get? b = some o → h'.get? b = some o := fun b o hb e => by
          simp only [List.mem_cons, List.not_mem_nil, or_false, not_or] at hb
          exact hs b o hb.1 hb.2 e
        have hfz : ∀ b o, s.heap.get? b = some o → Frozen o → h'.get? b = some o := fun b o e hf => hne b o (fun hb => (ItR.notFrozen (C := C) (ρ := ρ) (g := .enum n i) ⟨it2, l, old, rfl, hne2, hr, hit, he⟩) b hb o e hf) e
        refine h rfl _ _ hne rfl rfl ⟨_, rfl, .tup (its := [.int i s.toks, x]) htup (.cons (.int _ _) (.cons (hV.mono hfz (fun _ _ e => e)) .nil)), ⟨it2, l, x, _, rfl, hne2, hr, hit', ?_, rfl⟩, ?_⟩
        · have e : (((i : Nat) : Int) + 1) = (((i + 1 : Nat)) : Int) := by omega
          rw [e] at hout; exact hout
        · show h'.get? it ≠ none
          rw [hout]; simp
      · rename_i ha
        cases hm'
        refine wpAny_pyNext_enum_end hA.1 he hit hlist (by simpa using (V.get i).2 ha) fun h' hs => ?_
        exact h rfl _ _ (fun b o hb e => hs b o (by simp only [List.mem_cons, List.not_mem_nil, or_false, not_or] at hb; exact hb.2) e) rfl rfl rfl
    · cases hm'
theorem letOwned_other {A : Around} {elts : List PySem.Expr} {x1 : Nat} {pos : Pos} {it : Addr} {v : Value} {o : Obj} {T : String} {s : Shared} {Q : Unit → Shared → Prop} {E : Value → Shared → Prop} (ho : s.heap.get? it = some o) (hc : o.cls = .type T)
    (hT : ["enumerate", "zip", "dict_itemiterator", "dict_reverseitemiterator", "odict_iterator", "itertools.zip_longest", "itertools.pairwise"].contains T = false) (h : Q () s) :
    wpAny (model C.prog C.w) A (letOwnedTupleGo (.Tuple elts x1 pos) (.ref it) v) Q E s := by
  cases v with
  | ref a =>
    show wpAny _ _ (do
      let o ← load it
      match o.cls, o.data with
      | .type n, .fields vs =>
        if ["enumerate", "zip", "dict_itemiterator", "dict_reverseitemiterator", "odict_iterator", "itertools.zip_longest", "itertools.pairwise"].contains n && vs[0]? == some (rawInt a) then
          rule "for.unpacks-the-owned-tuple"
          updateField it 0 .none
      | _, _ => pure ()) _ _ _
    refine wpAny_bind (wpAny_load ho ?_)
    rw [hc]
    cases o.data <;> first | exact wpAny_pure h | (simp only [hT, Bool.false_and]; exact wpAny_pure h)
  | _ => exact wpAny_pure h
def notEnum : Src → Bool
  | .enum _ _ => false
  | _ => true
theorem nxt_notEnum {g g' : Src} {σ σ' : St} {a : AV} (h : nxtM g σ = some (some (a, g'), σ')) (hg : notEnum g = true) : notEnum g' = true := by
  cases g with
  | list n i =>
    have h' : (match σ.hp[n]? with
      | some (.list l) => (match l[i]? with
        | some a => some (some (a, Src.list n (i + 1)), σ)
        | none => some (none, σ))
      | _ => none) = some (some (a, g'), σ') := h
    split at h'
    · split at h' <;> cases h'; rfl
    · cases h'
  | fixed l => cases l <;> cases h; rfl
  | range x n => cases n <;> cases h; rfl
  | enum n i => cases hg
theorem out_in {h : Heap} {ρ : Rho} {it : Nat} {its : List Nat} {v : Value} {g : Src} (hg : notEnum g = true) (x : ItOut C h ρ it its v g) : ItR C h ρ it its g := by
  cases g <;> first | exact x | cases hg
theorem ItR.cls {h : Heap} {ρ : Rho} {it : Nat} {its : List Nat} {g : Src} (hg : notEnum g = true) (x : ItR C h ρ it its g) : ∃ o T, h.get? it = some o ∧ o.cls = .type T ∧
    ["enumerate", "zip", "dict_itemiterator", "dict_reverseitemiterator", "odict_iterator", "itertools.zip_longest", "itertools.pairwise"].contains T = false := by
  cases g with
  | list n i => obtain ⟨rfl, l, hr, o', p, hc, hd⟩ := x; exact ⟨_, _, p, hc, by decide⟩
  | fixed l => obtain ⟨rfl, t, i, items, ht, ⟨o', p, hc, hd⟩, V⟩ := x; exact ⟨_, _, p, hc, by decide⟩
  | range y left => obtain ⟨rfl, p⟩ := x; exact ⟨_, _, p, rfl, by decide⟩
  | enum n i => cases hg
/-- the loop itself, begun at s₀ -/
theorem for_loop {target : PySem.Expr} {body : List Stmt} {st : AV → M Unit} {mb : M Fl} (hst : DO1 C k env RU (assign target env) st) (hb : DS C k env (execs body env) mb)
    {P : Src → Prop} (hP : ∀ g g' σ σ' a, nxtM g σ = some (some (a, g'), σ') → P g → P g')
    (hlo : ∀ (A : Around) (ρ : Rho) (s : Shared) (Q : Unit → Shared → Prop) (E : Value → Shared → Prop) (it : Nat) (its : List Nat) (v : Value) (g : Src), P g → ItOut C s.heap ρ it its v g → 
      (∀ h', (∀ b o, b ∉ its → s.heap.get? b = some o → h'.get? b = some o) → ItR C h' ρ it its g → Q () { s with heap := h' }) → wpAny (model C.prog C.w) A (letOwnedTupleGo target (.ref it) v) Q E s)
    {A : Around} {σ : St} {a : Fl} {σ' : St} {g : Src} {fuel : Nat} (hA : AOk k A) (hm : forM' fuel g st mb σ = some (a, σ')) {ρ : Rho} {s : Shared} {R' : Result → Shared → Prop} {it : Nat} {its : List Nat} {ρ₀ : Rho} {σ₀ : St} {s₀ : Shared}
    (hPg : P g) (R : Rep C env ρ σ s.heap) (S : Sp env.locals ρ₀ σ₀ s₀ ρ σ s) (R₀ : Rep C env ρ₀ σ₀ s₀.heap) (I : ItR C s.heap ρ it its g) (hi : ∀ b ∈ its, s₀.heap.get? b = none) (hr : ∀ (m a d : Nat), ρ[m]? = some (a, d) → a ∉ its ∧ d ∉ its)
    (h : ∀ ρ' s' v, Rep C env ρ' σ' s'.heap → Sp env.locals ρ₀ σ₀ s₀ ρ' σ' s' → FRel C.mC s'.heap ρ' a v → R' (.ok v) s') : codeAny (model C.prog C.w) A (.forLoop target (.ref it) body [] env) R' s := by
  have hL : env.locals ∉ its := fun q => by
    obtain ⟨m, ⟨o, es, ep, p, _⟩, _⟩ := R₀.ns
    rw [hi _ q] at p; cases p
  have hh0 : ∀ b ∈ its, C.h₀.get? b = none := fun b hb => by
    cases e : C.h₀.get? b with
    | none => rfl
    | some o => have := R₀.base b o e; rw [hi b hb] at this; cases this
  refine codeAny_forLoop_any (fun n s₁ => ∃ σ₁ ρ₁ g₁, forM' n g₁ st mb σ₁ = some (a, σ') ∧ P g₁ ∧ Rep C env ρ₁ σ₁ s₁.heap ∧ Sp env.locals ρ₀ σ₀ s₀ ρ₁ σ₁ s₁ ∧ ItR C s₁.heap ρ₁ it its g₁ ∧ (∀ (m a d : Nat), ρ₁[m]? = some (a, d) → a ∉ its ∧ d ∉ its))
    (fun n s₁ hI => ?_) fuel ⟨σ, ρ, g, hm, hPg, R, S, I, hr⟩
  obtain ⟨σ₁, ρ₁, g₁, hm, hPg, R₁, S₁, I₁, hr₁⟩ := hI
  cases n with
  | zero => cases hm
  | succ n =>
    replace hm : (do
      let r ← nxtM g₁
      match r with
      | none => pure .next
      | some (a, g') => do
        st a
        let f ← mb
        match f with
        | .next => forM' n g' st mb
        | .cont => forM' n g' st mb
        | .brk => pure .next
        | .ret v => pure (.ret v) : M Fl) σ₁ = some (a, σ') := hm
    obtain ⟨r, σ₂, h₂, hm⟩ := bind_some hm
    refine src_next hA h₂ R₁ I₁ fun hσ s₂ v hk hos hgens hv => ?_
    subst hσ
    have R₂ := R₁.its hk hL hh0 hr₁ I₁.notFrozen
    have S₂ := S₁.its hi hk hos hgens
    cases r with
    | none =>
      subst hv
      obtain ⟨rfl, rfl⟩ := pure_some hm
      exact wpAny_execs_nil (h ρ₁ s₂ _ R₂ S₂ .next)
    | some ag =>
      obtain ⟨av, g'⟩ := ag
      obtain ⟨x, rfl, V₂, O₂, _⟩ := hv
      have hPg' := hP _ _ _ _ _ h₂ hPg
      refine hlo A ρ₁ s₂ _ _ it its x g' hPg' O₂ fun h₃ hk₃ I₃ => ?_
      have hfz3 : ∀ b ∈ its, ∀ o, s₂.heap.get? b = some o → ¬ Frozen o := by
        intro b hb o e hf
        cases g' with
        | enum n i =>
          obtain ⟨it2, l, x', a', rfl, _, _, ⟨o', p, hc, hd⟩, q, _⟩ := O₂
          have hb' : b = it ∨ b = it2 := by simpa using hb
          rcases hb' with rfl | rfl
          · rw [q] at e; cases e; simp [Frozen] at hf
          · rw [p] at e; cases e; simp [Frozen, hc, hd] at hf
        | list n i => exact ItR.notFrozen (C := C) (ρ := ρ₁) (g := .list n i) O₂ b hb o e hf
        | fixed l => exact ItR.notFrozen (C := C) (ρ := ρ₁) (g := .fixed l) O₂ b hb o e hf
        | range x' l => exact ItR.notFrozen (C := C) (ρ := ρ₁) (g := .range x' l) O₂ b hb o e hf
      have R₃ : Rep C env ρ₁ σ₂ h₃ := R₂.its hk₃ hL hh0 hr₁ hfz3
      have S₃ : Sp env.locals ρ₀ σ₀ s₀ ρ₁ σ₂ { s₂ with heap := h₃ } := S₂.its hi hk₃ rfl rfl
      have V₃ : VRel C.mC h₃ ρ₁ av x := V₂.mono (fun b o e hf => hk₃ b o (fun hb => hfz3 b hb o e hf) e) (fun _ _ e => e)
      obtain ⟨u, σ₄, h₄, hm⟩ := bind_some hm
      refine hst A σ₂ av u σ₄ hA h₄ ρ₁ { s₂ with heap := h₃ } _ _ x R₃ V₃ fun ρ₄ s₄ _ R₄ S₄ _ => ?_
      obtain ⟨f, σ₅, h₅, hm⟩ := bind_some hm
      refine hb A σ₄ f σ₅ hA h₅ ρ₄ s₄ _ _ R₄ fun ρ₅ s₅ fv R₅ S₅ V₅ => ?_
      have S45 := S₄.trans S₅
      have hfoot : ∀ b ∈ its, ¬ foot ρ₁ σ₂ b := by
        rintro b hb ⟨m, a', d', hm', _, hbd⟩
        have := hr₁ m a' d' hm'
        rcases hbd with rfl | rfl
        · exact this.1 hb
        · exact this.2 hb
      have I₅ : ItR C s₅.heap ρ₅ it its g' := I₃.keep (fun b hb o e => S45.keep b o e (hfoot b hb) (fun q => hL (q ▸ hb))) S45.frz S45.ext
      have hr₅ : ∀ (m a d : Nat), ρ₅[m]? = some (a, d) → a ∉ its ∧ d ∉ its := fun m a' d' hm' => by
        by_cases hlt : m < ρ₁.length
        · have e1 : ρ₁[m]? = some ρ₁[m] := List.getElem?_eq_getElem hlt
          have e2 := S45.ext m _ e1
          rw [hm'] at e2
          exact hr₁ m a' d' (by rw [e1, ← e2])
        · have hnew := S45.new m a' d' (Nat.le_of_not_lt hlt) hm'
          refine ⟨fun q => ?_, fun q => ?_⟩
          · obtain ⟨o, ho⟩ := I₃.live _ q
            rw [show (Shared.heap { s₂ with heap := h₃ }) = h₃ from rfl] at hnew
            rw [hnew.1] at ho; cases ho
          · obtain ⟨o, ho⟩ := I₃.live _ q
            rw [show (Shared.heap { s₂ with heap := h₃ }) = h₃ from rfl] at hnew
            rw [hnew.2] at ho; cases ho
      cases V₅ with
      | next => exact ⟨n, Nat.lt_succ_self n, σ₅, ρ₅, g', hm, hPg', R₅, S₃.trans S45, I₅, hr₅⟩
      | cont => exact ⟨n, Nat.lt_succ_self n, σ₅, ρ₅, g', hm, hPg', R₅, S₃.trans S45, I₅, hr₅⟩
      | brk => obtain ⟨rfl, rfl⟩ := pure_some hm; exact h ρ₅ s₅ _ R₅ (S₃.trans S45) .next
      | ret V => obtain ⟨rfl, rfl⟩ := pure_some hm; exact h ρ₅ s₅ _ R₅ (S₃.trans S45) (.ret V)
end
end Mine

open PySem PySem.W PyProof.Rows
set_option Elab.async false
set_option maxRecDepth 100000
set_option maxHeartbeats 1000000
set_option linter.unusedVariables false
namespace Mine
section
variable {C : Cx} {k : Nat} {env : Env}
/-! names of the module and of the builtins -/
theorem den_glob {x : Str} {pos : Pos} (v : Value) (hn : nsIn C.K mainGlobals x = some (some v)) (hk : env.kindOf x = some .globalImplicit) (hd : (x == ("__debug__" : Str)) = false) : DV C k env (eval (.Name x pos) env) (pure (.st v)) := by
  intro A σ a σ' hA hm ρ s Q E R h
  obtain ⟨rfl, rfl⟩ := pure_some hm
  refine Calls.Name_function_global R.kind hk (Calls.loadGlobal_global (mg := C.mg) ?_ (mg_of C.X C.T.g hn) (h ρ s v R (Sp.refl _ _ _ _) (.st v))) hd
  rw [R.globs]; exact ns_keep C.T.g (fun o e => R.base _ o e)
theorem den_blt {x : Str} {pos : Pos} (v : Value) (hn : nsIn C.K mainGlobals x = some none) (hb : bootBuiltins x = some v) (hne : x ≠ "__name__") (hk : env.kindOf x = some .globalImplicit) (hd : (x == ("__debug__" : Str)) = false) : DV C k env (eval (.Name x pos) env) (pure (.st v)) := by
  intro A σ a σ' hA hm ρ s Q E R h
  obtain ⟨rfl, rfl⟩ := pure_some hm
  refine Calls.Name_function_global R.kind hk (Calls.loadGlobal_builtin (mg := C.mg) (mb := C.mb) ?_ (mg_none_of C.X C.T.g hn) ?_ ((C.T.builtins x hne).trans hb) (h ρ s v R (Sp.refl _ _ _ _) (.st v))) hd
  · rw [R.globs]; exact ns_keep C.T.g (fun o e => R.base _ o e)
  · rw [R.blts]; exact ns_keep C.T.b (fun o e => R.base _ o e)
/-! calls -/
def DC (C : Cx) (k : Nat) (env : Env) {α β : Type} (Rv : Heap → Rho → α → β → Prop) (t : List Value → Sem β) (g : List AV → M α) : Prop :=
  ∀ (A : Around) (σ : St) (l : List AV) (a : α) (σ' : St), AOk k A → g l σ = some (a, σ') → ∀ (ρ : Rho) (s : Shared) (Q : β → Shared → Prop) (E : Value → Shared → Prop) (vs : List Value), Rep C env ρ σ s.heap → VRels C.mC s.heap ρ l vs →
    (∀ ρ' s' v, Rep C env ρ' σ' s'.heap → Sp env.locals ρ σ s ρ' σ' s' → Rv s'.heap ρ' a v → Q v s') → wpAny (model C.prog C.w) A (t vs) Q E s
theorem VRels.append {mC : Addr} {h : Heap} {ρ : Rho} : ∀ {l₁ l₂ : List AV} {v₁ v₂ : List Value}, VRels mC h ρ l₁ v₁ → VRels mC h ρ l₂ v₂ → VRels mC h ρ (l₁ ++ l₂) (v₁ ++ v₂)
  | _, _, _, _, .nil, y => y
  | _, _, _, _, .cons x r, y => .cons x (r.append y)
theorem VRels.reverse {mC : Addr} {h : Heap} {ρ : Rho} : ∀ {l : List AV} {v : List Value}, VRels mC h ρ l v → VRels mC h ρ l.reverse v.reverse
  | _, _, .nil => .nil
  | _, _, .cons x r => by rw [List.reverse_cons, List.reverse_cons]; exact r.reverse.append (.cons x .nil)
def notRef : Value → Bool
  | .ref _ => false
  | _ => true
theorem evalArgs_any {M : Model} {A : Around} {E : Value → Shared → Prop} {s : Shared} {f : Value} {Q : Args → Shared → Prop} : ∀ {bs : List (Bool × Sem Value)}, bs.any (·.1) = false →
    wpAny M A (spliced bs) (fun vs s' => Q ⟨vs, []⟩ s') E s → wpAny M A (evalArgs f true bs []) Q E s
  | [], _, h => by
    unfold evalArgs
    show wpAny M A (spliced [] >>= _) Q E s
    refine wpAny_bind (wpAny_mono h (fun vs s' h' => ?_) fun _ _ x => x)
    refine wpAny_holding ?_
    exact wpAny_bind (wpAny_pure (wpAny_bind (wpAny_pure (wpAny_pure h'))))
  | (false, x) :: rest, _, h => Calls.evalArgs_plain h
  | (true, x) :: rest, hb, _ => by simp at hb
theorem keeper_ok {K : Frag} {M : Model} {f : Value} (hf : notRef f = true ∨ keepIn K f = true) : ∀ h, K.In h → ∃ k, (k = Keeper.frame ∨ k = Keeper.machine ∨ k = Keeper.boundFrame) ∧ Looks M h (keeperOf f) k := by
  intro h X
  rcases hf with hf | hf
  · refine ⟨.machine, .inr (.inl rfl), ?_⟩
    cases f <;> first | exact Looks.of_pure rfl | cases hf
  · exact keeps_K hf h X
/-- callWith, args not starred -/
theorem cw_plain {f : Value} {first : List AV} {pos : Pos} {args : List PySem.Expr} {ms : M (List AV)} {g : List AV → M AV} (hs : DL C k env (spliced (backTo pos (starEach args env))) ms)
    (hg : DC C k env (RV C) (fun vs => call f vs) g) (hr : notRef f = true ∨ keepIn C.K f = true) (hst : (backTo pos (starEach args env)).any (·.1) = false)
    {A : Around} {σ : St} {a : AV} {σ' : St} (hA : AOk k A) (hm : (do let l ← ms; g (first ++ l)) σ = some (a, σ')) {ρ : Rho} {s : Shared} {Q : Value → Shared → Prop} {E : Value → Shared → Prop} {fv : List Value} (R : Rep C env ρ σ s.heap) (V : VRels C.mC s.heap ρ first fv)
    (h : ∀ ρ' s' v, Rep C env ρ' σ' s'.heap → Sp env.locals ρ σ s ρ' σ' s' → VRel C.mC s'.heap ρ' a v → Q v s') : wpAny (model C.prog C.w) A (callWith pos f fv (backTo pos (starEach args env)) []) Q E s := by
  obtain ⟨l, σ₁, h₁, hm⟩ := bind_some hm
  refine callWith_of (P := fun h => C.K.In h) (by rw [hst]; rfl) (keeper_ok hr) (evalArgs_any hst ?_)
  refine hs A σ l σ₁ hA h₁ ρ s _ E R fun ρ₁ s₁ vs R₁ S₁ V₁ => ⟨fun a o e => R₁.base _ _ (C.X a o e), ?_⟩
  exact hg A σ₁ _ a σ' hA hm ρ₁ s₁ Q E _ R₁ (VRels.append (V.step S₁) V₁) fun ρ' s' v R' S' V' => h ρ' s' v R' (S₁.trans S') V'
theorem den_call {f : Value} {x : Str} {np pos : Pos} {args : List PySem.Expr} {ms : M (List AV)} {g : List AV → M AV} (hf : DV C k env (eval (.Name x np) env) (pure (.st f))) (hs : DL C k env (spliced (backTo pos (starEach args env))) ms)
    (hg : DC C k env (RV C) (fun vs => call f vs) g) (hr : notRef f = true ∨ keepIn C.K f = true) (hst : (backTo pos (starEach args env)).any (·.1) = false) :
    DV C k env (eval (.Call (.Name x np) args [] pos) env) (do let l ← ms; g l) := by
  intro A σ a σ' hA hm ρ s Q E R h
  refine wpAny_Call_ofName (hf A σ _ σ hA rfl ρ s _ E R fun ρ₀ s₀ v₀ R₀ S₀ V₀ => ?_)
  cases V₀
  exact cw_plain (first := []) hs hg hr hst hA hm R₀ .nil fun ρ' s' v R' S' V' => h ρ' s' v R' (S₀.trans S') V'

/-! range, len -/
def okI (a : Int) : Bool := decide (-(1152921504606846976 : Int) ≤ a) && decide (a ≤ 1152921504606846976)
def rangeM : List AV → M AV
  | [.int n] => pure (.rng 0 n)
  | [.int a, .int b] => pure (.rng a b)
  | _ => fun _ => none
theorem dc_range : DC C k env (RV C) (fun vs => call (.type "range") vs) rangeM := by
  intro A σ l a σ' hA hm ρ s Q E vs R V h
  unfold rangeM at hm
  split at hm
  · obtain ⟨rfl, rfl⟩ := pure_some hm
    cases V with
    | cons x V => cases V with
      | nil => cases x with
        | int n t => exact call_range_1 (h ρ _ _ (R.push _) (Sp.push _ _) (.rng (Heap.get?_push_size _ rfl)))
  · obtain ⟨rfl, rfl⟩ := pure_some hm
    cases V with
    | cons x V => cases V with
      | cons y V => cases V with
        | nil => cases x with
          | int n t => cases y with
            | int m u => exact call_range_2 (h ρ _ _ (R.push _) (Sp.push _ _) (.rng (Heap.get?_push_size _ rfl)))
  · cases hm
/-- a list read: its items -/
def lstM (n : Nat) : M (List AV) := fun σ => match σ.hp[n]? with
  | some (.list l) => some (l, σ)
  | _ => none
theorem lstM_some {n : Nat} {σ σ' : St} {l : List AV} (h : lstM n σ = some (l, σ')) : σ = σ' ∧ σ.hp[n]? = some (.list l) := by
  unfold lstM at h
  split at h
  · rename_i l' e; cases h; exact ⟨rfl, e⟩
  · cases h
def lenM : List AV → M AV
  | [.ref n] => fun σ => match σ.hp[n]? with
    | some (.list l) => if l.length ≤ 1000000 then some (.int l.length, σ) else none
    | _ => none
  | _ => fun _ => none
theorem dc_len : DC C k env (RV C) (fun vs => call (.builtin "len") vs) lenM := by
  intro A σ l a σ' hA hm ρ s Q E vs R V h
  unfold lenM at hm
  split at hm
  · rename_i n
    split at hm
    · rename_i l' hl'
      split at hm
      · rename_i hlen
        cases hm
        cases V with
        | cons x V => cases V with
          | nil => cases x with
            | ref hr =>
              obtain ⟨a, d, hq, rfl, items, ⟨ep, hp⟩, W⟩ := R.at hl'
              rw [hr] at hq; cases hq
              refine Calls.call_len_list (items := items.toArray) ⟨_, hp, rfl, _, rfl⟩ ?_ ?_
              · rw [List.size_toArray, ← W.length]; omega
              · rw [List.size_toArray, ← W.length]
                exact h ρ _ _ R (Sp.toks _) (.int _ _)
      · cases hm
    · cases hm
  · cases hm

/-! for -/
def iterM : AV → M Src
  | .ref n => fun σ => match σ.hp[n]? with
    | some (.list _) => some (.list n 0, σ)
    | _ => none
  | .tup l => pure (.fixed l)
  | .rng a b => fun σ => if okI a && okI b then some (.range a (b - a).toNat, σ) else none
  | _ => fun _ => none
/-- the source of a loop: its head's value, asked for an iterator -/
def DI (C : Cx) (k : Nat) (env : Env) (t : Sem Value) (m : M Src) : Prop :=
  ∀ (A : Around) (σ : St) (g : Src) (σ' : St), AOk k A → m σ = some (g, σ') → ∀ (ρ : Rho) (s : Shared) (Q : Value → Shared → Prop) (E : Value → Shared → Prop), Rep C env ρ σ s.heap →
    (∀ ρ₁ s₁ (it : Nat) its, Rep C env ρ₁ σ' s₁.heap → Sp env.locals ρ σ s ρ₁ σ' s₁ → ItR C s₁.heap ρ₁ it its g → (∀ b ∈ its, s.heap.get? b = none) → (∀ (m a d : Nat), ρ₁[m]? = some (a, d) → a ∉ its ∧ d ∉ its) → Q (.ref it) s₁) →
    wpAny (model C.prog C.w) A t (fun x s₁ => wpAny (model C.prog C.w) A (pyIter x) Q E s₁) E s
theorem Rep.lt {ρ : Rho} {σ : St} {h : Heap} (R : Rep C env ρ σ h) {n a d : Nat} (e : ρ[n]? = some (a, d)) : a < h.objs.size ∧ d < h.objs.size := by
  obtain ⟨oo, _, x⟩ := R.obj e
  cases oo with
  | list l => obtain ⟨rfl, its, ⟨n, p⟩, v⟩ := x; exact ⟨Heap.lt_size p, Heap.lt_size p⟩
  | dict l => obtain ⟨rfl, kvs, ⟨o, es, ep, p, r⟩, q, v⟩ := x; exact ⟨Heap.lt_size p, Heap.lt_size p⟩
  | set l => obtain ⟨rfl, ⟨m, o, es, ep, t, p, r⟩⟩ := x; exact ⟨Heap.lt_size p, Heap.lt_size p⟩
  | inst l => obtain ⟨e, p, es, n, q, k, r⟩ := x; exact ⟨Heap.lt_size p, Heap.lt_size q⟩
  | cell v => obtain ⟨rfl, w, ⟨o, p, r⟩, q⟩ := x; exact ⟨Heap.lt_size p, Heap.lt_size p⟩
  | lock => obtain ⟨⟨o, p, _⟩, o', q, _⟩ := x; exact ⟨Heap.lt_size p, Heap.lt_size q⟩
theorem get_size_none (h : Heap) : h.get? h.objs.size = none := by
  cases e : h.get? h.objs.size with
  | none => rfl
  | some o => exact absurd (Heap.lt_size e) (Nat.lt_irrefl _)
theorem not_live_of {L : Addr} {ρ ρ' : Rho} {σ σ' : St} {s s' : Shared} (S : Sp L ρ σ s ρ' σ' s') {b : Addr} (e : s'.heap.get? b = none) : s.heap.get? b = none := by
  cases q : s.heap.get? b with
  | none => rfl
  | some o => obtain ⟨o', h'⟩ := S.live b o q; rw [e] at h'; cases h'
theorem rangeFits_of {a b : Int} (ha : okI a = true) (hb : okI b = true) : Builtin.Range.small a b 1 = true ∧ Builtin.Range.rangeSize a b 1 = ((b - a).toNat : Int) := by
  simp only [okI, Bool.and_eq_true, decide_eq_true_eq] at ha hb
  refine ⟨?_, rangeSize_nat a b⟩
  unfold Builtin.Range.small
  rw [rangeSize_nat]
  simp only [Builtin.Range.rangeFitsLong, Bool.and_eq_true, Bool.or_eq_true, decide_eq_true_eq, beq_iff_eq]
  refine ⟨⟨⟨⟨⟨by omega, by omega⟩, ⟨by omega, by omega⟩⟩, ⟨by omega, by omega⟩⟩, ⟨by omega, by omega⟩⟩, .inr ?_⟩
  show (if (1 : Int) > 0 then _ else _) = true
  rw [if_pos (by decide)]
  simp only [Bool.and_eq_true, decide_eq_true_eq]
  exact ⟨by omega, by omega⟩
theorem di_of {iter : PySem.Expr} {m : M AV} (he : DV C k env (eval iter env) m) : DI C k env (eval iter env) (do let a ← m; iterM a) := by
  intro A σ g σ' hA hm ρ s Q E R h
  obtain ⟨x, σ₁, h₁, hm⟩ := bind_some hm
  refine he A σ x σ₁ hA h₁ ρ s _ E R fun ρ₁ s₁ v R₁ S₁ V₁ => ?_
  have hn : ∀ (m a d : Nat), ρ₁[m]? = some (a, d) → a ∉ [s₁.heap.objs.size] ∧ d ∉ [s₁.heap.objs.size] := fun m a d e => by
    have := R₁.lt e
    simp only [List.mem_singleton]
    exact ⟨Nat.ne_of_lt this.1, Nat.ne_of_lt this.2⟩
  have hl : ∀ b ∈ [s₁.heap.objs.size], s.heap.get? b = none := fun b hb => by
    obtain rfl := List.mem_singleton.mp hb
    exact not_live_of S₁ (get_size_none _)
  cases V₁ with
  | ref hr =>
    rename_i n a d
    have hm' : (match σ₁.hp[n]? with
      | some (.list _) => some (Src.list n 0, σ₁)
      | _ => none) = some (g, σ') := hm
    split at hm'
    · rename_i l hl'
      cases hm'
      obtain ⟨a, d, hq, rfl, items, ⟨ep, hp⟩, W⟩ := R₁.at hl'
      rw [hr] at hq; cases hq
      refine wpAny_pyIter_list (items := items.toArray) ⟨_, hp, rfl, _, rfl⟩ ?_
      exact h ρ₁ _ _ [s₁.heap.objs.size] (R₁.push _) (S₁.trans (Sp.push _ _)) ⟨rfl, a, hr, _, Heap.get?_push_size _ rfl, rfl, rfl⟩ hl hn
    · cases hm'
  | tup ht hs =>
    rename_i l a its
    obtain ⟨rfl, rfl⟩ := pure_some hm
    refine wpAny_pyIter_tuple (items := its.toArray) ⟨_, ht, rfl, _, rfl⟩ ?_
    refine h ρ₁ _ _ [s₁.heap.objs.size] (R₁.push _) (S₁.trans (Sp.push _ _)) ⟨rfl, a, 0, its.toArray, Heap.get?_push_of_some _ ht, ⟨_, Heap.get?_push_size _ rfl, rfl, rfl⟩, ?_⟩ hl hn
    exact hs.mono (fun b o e _ => Heap.get?_push_of_some _ e) (fun _ _ e => e)
  | rng hr =>
    rename_i a b r t u v
    have hm' : (if okI a && okI b then some (Src.range a (b - a).toNat, σ₁) else none) = some (g, σ') := hm
    split at hm'
    · rename_i hok
      cases hm'
      obtain ⟨ha, hb⟩ := Bool.and_eq_true_iff.mp hok
      obtain ⟨h1, h2⟩ := rangeFits_of ha hb
      refine wpAny_pyIter_range (a := a) (b := b) (c := 1) hr h1 ?_
      refine h ρ₁ _ _ [s₁.heap.objs.size] (R₁.push _) (S₁.trans (Sp.push _ _)) ⟨rfl, ?_⟩ hl hn
      rw [h2]
      exact Heap.get?_push_size _ rfl
    · cases hm'
  | _ => cases hm
/-- how many turns a loop may take; a list's length is below it -/
def fuel : Nat := 2000000
theorem ds_for {target iter : PySem.Expr} {body : List Stmt} {pos : Pos} {mi : M Src} {st : AV → M Unit} {mb : M Fl} (hi : DI C k env (eval iter env) mi) (hst : DO1 C k env RU (assign target env) st) (hb : DS C k env (execs body env) mb)
    {P : Src → Prop} (hP : ∀ g g' σ σ' a, nxtM g σ = some (some (a, g'), σ') → P g → P g')
    (hlo : ∀ (A : Around) (ρ : Rho) (s : Shared) (Q : Unit → Shared → Prop) (E : Value → Shared → Prop) (it : Nat) (its : List Nat) (v : Value) (g : Src), P g → ItOut C s.heap ρ it its v g → 
      (∀ h', (∀ b o, b ∉ its → s.heap.get? b = some o → h'.get? b = some o) → ItR C h' ρ it its g → Q () { s with heap := h' }) → wpAny (model C.prog C.w) A (letOwnedTupleGo target (.ref it) v) Q E s)
    (hPg : ∀ σ g σ', mi σ = some (g, σ') → P g) (hfs : ∀ x, foldedSetIterable iter env x = pure x) :
    DS C k env (exec (.For target iter body [] pos) env) (do let g ← mi; forM' fuel g st mb) := by
  intro A σ a σ' hA hm ρ s Q E R h
  obtain ⟨g, σ₁, h₁, hm⟩ := bind_some hm
  refine wpAny_For (hi A σ g σ₁ hA h₁ ρ s _ E R fun ρ₁ s₁ it its R₁ S₁ I₁ hl hn => ?_) hfs
  exact for_loop (R' := fun r s' => match r with | .ok f => Q f s' | .error e => cameBackBy (model C.prog C.w) A env E e s') hst hb hP hlo hA hm (hPg _ _ _ h₁) R₁ S₁ R I₁ hl hn fun ρ' s' v R' S' V' => h ρ' s' v R' S' V'
theorem iterM_notEnum {a : AV} {σ σ' : St} {g : Src} (h : iterM a σ = some (g, σ')) : notEnum g = true := by
  unfold iterM at h
  split at h
  · split at h
    · cases h; rfl
    · cases h
  · cases h; rfl
  · split at h
    · cases h; rfl
    · cases h
  · cases h
theorem ds_for_name {x : Str} {px : Pos} {iter : PySem.Expr} {body : List Stmt} {pos : Pos} {m : M AV} {mb : M Fl} (i : Nat) (hi : env.scope.names[i]? = some (x, .local)) (he : DV C k env (eval iter env) m) (hb : DS C k env (execs body env) mb)
    (hfs : ∀ x, foldedSetIterable iter env x = pure x) : DS C k env (exec (.For (.Name x px) iter body [] pos) env) (do let a ← m; let g ← iterM a; forM' fuel g (stM i) mb) := by
  have key := ds_for (pos := pos) (P := fun g => notEnum g = true) (di_of he) (da_name (pos := px) i hi) hb (fun g g' σ σ' a h hg => nxt_notEnum h hg) (fun A ρ s Q E it its v g hg ho hQ => by
    show wpAny _ _ (pure () : Sem Unit) _ _ _
    exact wpAny_pure (hQ s.heap (fun _ _ _ e => e) (out_in hg ho))) (fun σ g σ' h => by
      obtain ⟨a, σ₁, _, h⟩ := bind_some h
      exact iterM_notEnum h) hfs
  intro A σ a σ' hA hm
  refine key A σ a σ' hA ?_
  obtain ⟨x, σ₁, h₁, hm⟩ := bind_some hm
  obtain ⟨g, σ₂, h₂, hm⟩ := bind_some hm
  have e : (do let a ← m; iterM a : M Src) σ = some (g, σ₂) := by show M.bind m _ σ = _; unfold M.bind; rw [h₁]; exact h₂
  show M.bind (do let a ← m; iterM a : M Src) _ σ = _
  unfold M.bind
  rw [e]; exact hm
theorem ds_for_tup {elts : List PySem.Expr} {x1 : Nat} {px : Pos} {iter : PySem.Expr} {body : List Stmt} {pos : Pos} {m : M AV} {st : AV → M Unit} {mb : M Fl} (hst : DO1 C k env RU (assign (.Tuple elts x1 px) env) st) (he : DV C k env (eval iter env) m) (hb : DS C k env (execs body env) mb)
    (hfs : ∀ x, foldedSetIterable iter env x = pure x) : DS C k env (exec (.For (.Tuple elts x1 px) iter body [] pos) env) (do let a ← m; let g ← iterM a; forM' fuel g st mb) := by
  have key := ds_for (pos := pos) (P := fun g => notEnum g = true) (di_of he) hst hb (fun g g' σ σ' a h hg => nxt_notEnum h hg) (fun A ρ s Q E it its v g hg ho hQ => by
    obtain ⟨o, T, p, hc, hT⟩ := ItR.cls hg (out_in hg ho)
    exact letOwned_other p hc hT (hQ s.heap (fun _ _ _ e => e) (out_in hg ho))) (fun σ g σ' h => by
      obtain ⟨a, σ₁, _, h⟩ := bind_some h
      exact iterM_notEnum h) hfs
  intro A σ a σ' hA hm
  refine key A σ a σ' hA ?_
  obtain ⟨x, σ₁, h₁, hm⟩ := bind_some hm
  obtain ⟨g, σ₂, h₂, hm⟩ := bind_some hm
  have e : (do let a ← m; iterM a : M Src) σ = some (g, σ₂) := by show M.bind m _ σ = _; unfold M.bind; rw [h₁]; exact h₂
  show M.bind (do let a ← m; iterM a : M Src) _ σ = _
  unfold M.bind
  rw [e]; exact hm
/-- for .. in enumerate(x) -/
def enumM : List AV → M Src
  | [.ref n] => fun σ => match σ.hp[n]? with
    | some (.list _) => some (.enum n 0, σ)
    | _ => none
  | _ => fun _ => none
end
end Mine

open PySem PySem.W PyProof.Rows
set_option Elab.async false
set_option maxRecDepth 100000
set_option maxHeartbeats 1000000
set_option linter.unusedVariables false
namespace Mine
section
variable {C : Cx} {k : Nat} {env : Env}
/-! ints -/
def addM : AV → AV → M AV
  | .int a, .int b => pure (.int (a + b))
  | .tup a, .tup b => tupM' (a ++ b)
  | .ref n, .ref m => fun σ => match σ.hp[n]?, σ.hp[m]? with
    | some (.list a), some (.list b) => if a.length + b.length ≤ 1000000 then allocM (.list (a ++ b)) σ else none
    | _, _ => none
  | _, _ => fun _ => none
where tupM' (l : List AV) : M AV := fun σ => if l.length ≤ 1000000 then some (.tup l, σ) else none
def subM : AV → AV → M AV
  | .int a, .int b => pure (.int (a - b))
  | _, _ => fun _ => none
def divM : AV → AV → M AV
  | .int a, .int b => if 0 < b ∧ b ≤ 1000000 then pure (.int (a / b)) else fun _ => none
  | _, _ => fun _ => none
def modM : AV → AV → M AV
  | .int a, .int b => if 0 < b ∧ b ≤ 1000000 then pure (.int (a % b)) else fun _ => none
  | _, _ => fun _ => none
theorem do_add : DO2 C k env (RV C) (binaryOp .Add) addM := by
  intro A σ a b r σ' hA hm ρ s Q E va vb R Va Vb h
  unfold addM at hm
  split at hm
  · obtain ⟨rfl, rfl⟩ := pure_some hm
    cases Va; cases Vb
    exact wpAny_add_int (h ρ _ _ R (Sp.toks _) (.int _ _))
  · rename_i la lb
    unfold addM.tupM' at hm
    split at hm
    · rename_i hlen
      cases hm
      cases Va with
      | tup ht hs => cases Vb with
        | tup ht' hs' =>
          rename_i a₁ i₁ a₂ i₂
          have hz : i₁.length + i₂.length ≤ 1000000 := by rw [← hs.length, ← hs'.length, ← List.length_append]; exact hlen
          have e : i₁.toArray ++ i₂.toArray = (i₁ ++ i₂).toArray := by simp
          by_cases hv : i₁ = []
          · subst hv
            refine concat_meets ⟨_, ht, rfl⟩ ⟨_, ht', rfl⟩ noFill_tuple_add seq_tuple_add PySem.F.slot_tuple_add PySem.F.entry_tuple_add (PySem.F.args_tuple_add_2 _ _)
              (tuple_addW0 a₁ a₂ _ _ _ _ _ _ _ _ (by simp)) ⟨ht, ht', ?_⟩
            cases hs
            exact h ρ _ _ R (Sp.refl _ _ _ _) (.tup ht' hs')
          · by_cases hw : i₂ = []
            · subst hw
              refine concat_meets ⟨_, ht, rfl⟩ ⟨_, ht', rfl⟩ noFill_tuple_add seq_tuple_add PySem.F.slot_tuple_add PySem.F.entry_tuple_add (PySem.F.args_tuple_add_2 _ _)
                (tuple_addW1 a₁ a₂ _ _ _ _ _ _ _ _ (by simpa using hv) (by simp)) ⟨ht, ht', ?_⟩
              cases hs'
              rw [List.append_nil] at h
              exact h ρ _ _ R (Sp.refl _ _ _ _) (.tup ht hs)
            · refine concat_meets ⟨_, ht, rfl⟩ ⟨_, ht', rfl⟩ noFill_tuple_add seq_tuple_add PySem.F.slot_tuple_add PySem.F.entry_tuple_add (PySem.F.args_tuple_add_2 _ _)
                (tuple_addW2 a₁ a₂ _ _ _ _ _ _ _ _ (by simpa using hv) (by simpa using hw) (by rw [List.size_toArray, List.size_toArray, sizeLine_eq]; omega)) ⟨ht, ht', ?_⟩
              rw [e]
              exact h ρ _ _ (R.push _) (Sp.push _ _) (.tup (its := i₁ ++ i₂) (Heap.get?_push_size _ rfl) ((VRels.append hs hs').mono (fun b o e _ => Heap.get?_push_of_some _ e) (fun _ _ e => e)))
    · cases hm
  · rename_i n m
    split at hm
    · rename_i l₁ l₂ h₁ h₂
      split at hm
      · rename_i hlen
        cases hm
        cases Va with
        | ref hr => cases Vb with
          | ref hr' =>
            obtain ⟨a₁, d₁, hq, rfl, i₁, ⟨e₁, hp₁⟩, W₁⟩ := R.at h₁
            rw [hr] at hq; cases hq
            obtain ⟨a₂, d₂, hq, rfl, i₂, ⟨e₂, hp₂⟩, W₂⟩ := R.at h₂
            rw [hr'] at hq; cases hq
            have hz : i₁.length + i₂.length ≤ 1000000 := by rw [← W₁.length, ← W₂.length]; exact hlen
            refine P.add_list (items := i₁.toArray) (items2 := i₂.toArray) hp₁ hp₂ ?_ (by rw [sizeLine_eq]; simp only [List.size_toArray]; omega)
            have he : ∀ (n : Nat) q, ρ[n]? = some q → (ρ ++ [(s.heap.objs.size, s.heap.objs.size)])[n]? = some q := fun n q e => by rw [List.getElem?_append_left (List.getElem?_eq_some_iff.mp e).1]; exact e
            refine h _ _ _ (R.alloc _ (.list (l₁ ++ l₂)) R.lsize ⟨rfl, i₁ ++ i₂, ⟨0, by simpa using Heap.get?_push_size s.heap rfl⟩, (VRels.append W₁ W₂).mono (fun b o e _ => Heap.get?_push_of_some _ e) he⟩) (Sp.alloc _ _ _) (.ref (d := s.heap.objs.size) ?_)
            rw [← R.len, List.getElem?_append_right (Nat.le_refl _), Nat.sub_self]; rfl
      · cases hm
    · cases hm
  · cases hm
theorem do_sub : DO2 C k env (RV C) (binaryOp .Sub) subM := by
  intro A σ a b r σ' hA hm ρ s Q E va vb R Va Vb h
  unfold subM at hm
  split at hm
  · obtain ⟨rfl, rfl⟩ := pure_some hm
    cases Va; cases Vb
    exact sub_int (h ρ _ _ R (Sp.toks _) (.int _ _))
  · cases hm
theorem do_div : DO2 C k env (RV C) (binaryOp .FloorDiv) divM := by
  intro A σ a b r σ' hA hm ρ s Q E va vb R Va Vb h
  unfold divM at hm
  split at hm
  · split at hm
    · rename_i hb
      obtain ⟨rfl, rfl⟩ := pure_some hm
      cases Va; cases Vb
      refine floordiv_int (by omega) ?_ (.inl (PyProof.noPylong_small (by omega)))
      rw [Int.fdiv_eq_ediv_of_nonneg _ (by omega)]
      exact h ρ _ _ R (Sp.toks _) (.int _ _)
    · cases hm
  · cases hm
theorem do_mod : DO2 C k env (RV C) (binaryOp .Mod) modM := by
  intro A σ a b r σ' hA hm ρ s Q E va vb R Va Vb h
  unfold modM at hm
  split at hm
  · split at hm
    · rename_i hb
      obtain ⟨rfl, rfl⟩ := pure_some hm
      cases Va; cases Vb
      refine mod_int' (by omega) ?_
      rw [Int.fmod_eq_emod_of_nonneg _ (by omega)]
      exact h ρ _ _ R (Sp.toks _) (.int _ _)
    · cases hm
  · cases hm
def iaddM : AV → AV → M AV
  | .int a, .int b => pure (.int (a + b))
  | _, _ => fun _ => none
theorem do_iadd : DO2 C k env (RV C) (inplaceOp .Add) iaddM := by
  intro A σ a b r σ' hA hm ρ s Q E va vb R Va Vb h
  unfold iaddM at hm
  split at hm
  · obtain ⟨rfl, rfl⟩ := pure_some hm
    cases Va; cases Vb
    exact wpAny_iadd_int (h ρ _ _ R (Sp.toks _) (.int _ _))
  · cases hm
/-! comparisons of ints -/
def ltM : AV → AV → M Bool
  | .int a, .int b => pure (decide (a < b))
  | _, _ => fun _ => none
def leM : AV → AV → M Bool
  | .int a, .int b => pure (decide (a ≤ b))
  | _, _ => fun _ => none
def gtM : AV → AV → M Bool
  | .int a, .int b => pure (decide (b < a))
  | _, _ => fun _ => none
def geM : AV → AV → M Bool
  | .int a, .int b => pure (decide (b ≤ a))
  | _, _ => fun _ => none
def eqIM : AV → AV → M Bool
  | .int a, .int b => pure (a == b)
  | _, _ => fun _ => none
def neIM : AV → AV → M Bool
  | .int a, .int b => pure (a != b)
  | _, _ => fun _ => none
theorem do_lt : DO2 C k env RC (compareOp .Lt) ltM := by
  intro A σ a b r σ' hA hm ρ s Q E va vb R Va Vb h
  unfold ltM at hm
  split at hm
  · obtain ⟨rfl, rfl⟩ := pure_some hm
    cases Va; cases Vb
    exact lt_int (h ρ _ _ R (Sp.refl _ _ _ _) rfl)
  · cases hm
theorem do_le : DO2 C k env RC (compareOp .LtE) leM := by
  intro A σ a b r σ' hA hm ρ s Q E va vb R Va Vb h
  unfold leM at hm
  split at hm
  · obtain ⟨rfl, rfl⟩ := pure_some hm
    cases Va; cases Vb
    exact le_int (h ρ _ _ R (Sp.refl _ _ _ _) rfl)
  · cases hm
theorem do_gt : DO2 C k env RC (compareOp .Gt) gtM := by
  intro A σ a b r σ' hA hm ρ s Q E va vb R Va Vb h
  unfold gtM at hm
  split at hm
  · obtain ⟨rfl, rfl⟩ := pure_some hm
    cases Va; cases Vb
    exact gt_int (h ρ _ _ R (Sp.refl _ _ _ _) rfl)
  · cases hm
theorem do_ge : DO2 C k env RC (compareOp .GtE) geM := by
  intro A σ a b r σ' hA hm ρ s Q E va vb R Va Vb h
  unfold geM at hm
  split at hm
  · obtain ⟨rfl, rfl⟩ := pure_some hm
    cases Va; cases Vb
    exact ge_int (h ρ _ _ R (Sp.refl _ _ _ _) rfl)
  · cases hm
theorem do_eqI : DO2 C k env RC (compareOp .Eq) eqIM := by
  intro A σ a b r σ' hA hm ρ s Q E va vb R Va Vb h
  unfold eqIM at hm
  split at hm
  · obtain ⟨rfl, rfl⟩ := pure_some hm
    cases Va; cases Vb
    exact cmp_ofEq (wpAny_eq_int (h ρ _ _ R (Sp.refl _ _ _ _) rfl))
  · cases hm
theorem do_neI : DO2 C k env RC (compareOp .NotEq) neIM := by
  intro A σ a b r σ' hA hm ρ s Q E va vb R Va Vb h
  unfold neIM at hm
  split at hm
  · obtain ⟨rfl, rfl⟩ := pure_some hm
    cases Va; cases Vb
    exact ne_int (h ρ _ _ R (Sp.refl _ _ _ _) rfl)
  · cases hm
/-! is None -/
def isNoneAV : AV → Option Bool
  | .none => some true
  | .bool _ | .int _ | .flt _ | .str _ | .tup _ | .mat _ | .ref _ | .bm _ _ | .rng _ _ => some false
  | _ => none
def isNM : AV → AV → M Bool
  | a, .none => fun σ => (isNoneAV a).map (·, σ)
  | .ref n, .ref m => pure (n == m)
  | .ref _, .str _ => pure false
  | _, _ => fun _ => none
def isNotNM : AV → AV → M Bool
  | a, .none => fun σ => (isNoneAV a).map fun b => (!b, σ)
  | _, _ => fun _ => none
theorem isNone_v {mC : Addr} {h : Heap} {ρ : Rho} {a : AV} {v : Value} {b : Bool} (V : VRel mC h ρ a v) (hb : isNoneAV a = some b) : (v == Value.none) = b := by
  cases V <;> simp [isNoneAV] at hb <;> subst hb <;> rfl
theorem do_isNot : DO2 C k env RC (compareOp .IsNot) isNotNM := by
  intro A σ a b r σ' hA hm ρ s Q E va vb R Va Vb h
  unfold isNotNM at hm
  split at hm
  · cases Vb
    obtain ⟨b, hb, e⟩ := Option.map_eq_some_iff.mp hm
    cases e
    refine isNot_none ?_
    rw [isNone_v Va hb]
    exact h ρ _ _ R (Sp.refl _ _ _ _) rfl
  · cases hm
end
end Mine

open PySem PySem.W PyProof.Rows
set_option Elab.async false
set_option maxRecDepth 100000
set_option maxHeartbeats 1000000
set_option linter.unusedVariables false
namespace Mine
section
variable {C : Cx} {k : Nat} {env : Env}
/-! items -/
def idxOf (i : Int) (n : Nat) : Option Nat := if 0 ≤ i then (if i < n then some i.toNat else none) else (if -(n : Int) ≤ i then some (i + n).toNat else none)
def itemM : AV → AV → M AV
  | .ref n, .int i => fun σ => match σ.hp[n]? with
    | some (.list l) => if l.length ≤ 1000000 then (match (idxOf i l.length).bind fun j => l[j]? with
      | some a => some (a, σ)
      | none => none) else none
    | _ => none
  | .tup l, .int i => fun σ => if l.length ≤ 1000000 then (match (idxOf i l.length).bind fun j => l[j]? with
      | some a => some (a, σ)
      | none => none) else none
  | _, _ => fun _ => none
theorem den_item {value slice : PySem.Expr} {pos : Pos} {m₁ m₂ : M AV} (h₁ : DV C k env (eval value env) m₁) (h₂ : DV C k env (eval slice env) m₂)
    (hs : ∀ o i, subscripted slice false o i = operate [o, i] (getItem o i)) : DV C k env (eval (.Subscript value slice pos) env) (do let a ← m₁; let b ← m₂; itemM a b) := by
  intro A σ a σ' hA hm ρ s Q E R h
  obtain ⟨x, σ₁, hx, hm⟩ := bind_some hm
  obtain ⟨y, σ₂, hy, hm⟩ := bind_some hm
  show wpAny _ _ (do
    let o ← eval value env
    let i ← holding [o] (eval slice env)
    standAt pos
    subscriptTail value slice o i) _ _ _
  refine wpAny_bind (h₁ A σ x σ₁ hA hx ρ s _ E R fun ρ₁ s₁ v₁ R₁ S₁ V₁ => ?_)
  refine wpAny_bind (wpAny_holding (h₂ A σ₁ y σ₂ hA hy ρ₁ s₁ _ E R₁ fun ρ₂ s₂ v₂ R₂ S₂ V₂ => wpAny_bind (wpAny_standAt ?_)))
  have V₁' := V₁.step S₂
  unfold itemM at hm
  split at hm
  · rename_i n i
    split at hm
    · rename_i l hl
      split at hm
      · rename_i hlen
        split at hm
        · rename_i b hb
          cases hm
          cases V₂ with
          | int _ t => cases V₁' with
            | ref hr =>
              obtain ⟨a₁, d₁, hq, rfl, its, ⟨ep, hp⟩, W⟩ := R₂.at hl
              rw [hr] at hq; cases hq
              obtain ⟨j, hj, hjb⟩ := Option.bind_eq_some_iff.mp hb
              obtain ⟨w, hw, hV⟩ := (W.get j).1 _ hjb
              have hwl := W.length
              have hlist : s₂.heap.IsList _ its.toArray := ⟨_, hp, rfl, _, rfl⟩
              refine tail_any (ops := _) (T := "list") ⟨_, hp, rfl⟩ PySem.F.slot_list_getitem.lookup ?_ (hs _ _)
              unfold idxOf at hj
              split at hj
              · split at hj
                · simp only [Option.some.injEq] at hj; subst hj
                  exact wpAny_getItem_list hlist (by assumption) (by omega) (by simpa using hw) (h ρ₂ s₂ _ R₂ (S₁.trans S₂) hV)
                · cases hj
              · split at hj
                · simp only [Option.some.injEq] at hj; subst hj
                  rw [hwl] at hw
                  exact wpAny_getItem_list_neg hlist (by omega) (by simp only [List.size_toArray]; omega) (by omega) (by simpa using hw) (h ρ₂ s₂ _ R₂ (S₁.trans S₂) hV)
                · cases hj
        · cases hm
      · cases hm
    · cases hm
  · rename_i l i _
    split at hm
    · rename_i hlen
      split at hm
      · rename_i b hb
        cases hm
        cases V₂ with
        | int _ t => cases V₁' with
          | tup ht W =>
            rename_i a₁ its
            obtain ⟨j, hj, hjb⟩ := Option.bind_eq_some_iff.mp hb
            obtain ⟨w, hw, hV⟩ := (W.get j).1 _ hjb
            have hwl := W.length
            refine tail_any (ops := _) (T := "tuple") ⟨_, ht, rfl⟩ PySem.F.slot_tuple_getitem.lookup ?_ (hs _ _)
            have hj' : seqIndex? i its.toArray.size = some j := by
              unfold idxOf at hj
              unfold seqIndex?
              simp only [List.size_toArray]
              split at hj
              · split at hj
                · simp only [Option.some.injEq] at hj; subst hj
                  have e1 : (if i < 0 then i + (its.length : Int) else i) = i := if_neg (by omega)
                  simp only [e1]
                  rw [if_pos (by simp only [Bool.and_eq_true, decide_eq_true_eq]; omega)]
                · cases hj
              · split at hj
                · simp only [Option.some.injEq] at hj; subst hj
                  have e1 : (if i < 0 then i + (its.length : Int) else i) = i + its.length := if_pos (by omega)
                  simp only [e1]
                  rw [if_pos (by simp only [Bool.and_eq_true, decide_eq_true_eq]; omega), hwl]
                · cases hj
            have hr : -(1000000 : Int) ≤ i ∧ i ≤ 1000000 := by
              unfold idxOf at hj
              split at hj
              · split at hj
                · omega
                · cases hj
              · split at hj
                · omega
                · cases hj
            exact getItem_tuple (items := its.toArray) ⟨_, ht, rfl, _, rfl⟩ (by omega) (by omega) hj' (by simpa using hw) (h ρ₂ s₂ _ R₂ (S₁.trans S₂) hV)
      · cases hm
    · cases hm
  · cases hm

/-! unpacking -/
/-- stores of several values, in order -/
def DAs (C : Cx) (k : Nat) (env : Env) (ts : List (Value → Sem Unit)) (f : List AV → M Unit) : Prop :=
  ∀ (A : Around) (σ : St) (l : List AV) (u : Unit) (σ' : St), AOk k A → f l σ = some (u, σ') → ∀ (ρ : Rho) (s : Shared) (Q : Unit → Shared → Prop) (E : Value → Shared → Prop) (vs : List Value), Rep C env ρ σ s.heap → VRels C.mC s.heap ρ l vs →
    (∀ ρ' s', Rep C env ρ' σ' s'.heap → Sp env.locals ρ σ s ρ' σ' s' → Q () s') → wpAny (model C.prog C.w) A (assignInOrder ts vs) Q E s
def asNil : List AV → M Unit
  | [] => pure ()
  | _ => fun _ => none
def asCons (f : AV → M Unit) (fs : List AV → M Unit) : List AV → M Unit
  | a :: l => do f a; fs l
  | [] => fun _ => none
theorem das_nil : DAs C k env [] asNil := by
  intro A σ l u σ' hA hm ρ s Q E vs R V h
  cases V with
  | nil => cases hm; exact wpAny_assignInOrder_none (h ρ s R (Sp.refl _ _ _ _))
  | cons _ _ => cases hm
theorem das_cons {t : Value → Sem Unit} {ts : List (Value → Sem Unit)} {f : AV → M Unit} {fs : List AV → M Unit} (ht : DO1 C k env RU t f) (hs : DAs C k env ts fs) : DAs C k env (t :: ts) (asCons f fs) := by
  intro A σ l u σ' hA hm ρ s Q E vs R V h
  cases V with
  | nil => cases hm
  | cons x r =>
    obtain ⟨u₁, σ₁, h₁, hm⟩ := bind_some hm
    refine wpAny_assignInOrder_more (ht A σ _ u₁ σ₁ hA h₁ ρ s _ E _ R x fun ρ₁ s₁ _ R₁ S₁ _ => ?_)
    exact hs A σ₁ _ u σ' hA hm ρ₁ s₁ Q E _ R₁ (r.step S₁) fun ρ₂ s₂ R₂ S₂ => h ρ₂ s₂ R₂ (S₁.trans S₂)
def unpM (n : Nat) (fs : List AV → M Unit) : AV → M Unit
  | .tup l => fun σ => if l.length = n then fs l σ else none
  | _ => fun _ => none
theorem Sp.ext0 {L : Addr} {ρ : Rho} {σ : St} {s : Shared} {h' : Heap} (he : Heap.ExtBut s.heap.objs.size s.heap h') : Sp L ρ σ s ρ σ { s with heap := h' } where
  ext := fun _ _ h => h
  keep := fun b o e _ _ => he b o (Nat.ne_of_lt (Heap.lt_size e)) e
  frz := fun b o e _ => he b o (Nat.ne_of_lt (Heap.lt_size e)) e
  new := fun n a d hn hr => by
    have := (List.getElem?_eq_some_iff.mp hr).1
    omega
  live := fun b o e => ⟨o, he b o (Nat.ne_of_lt (Heap.lt_size e)) e⟩
  lock := fun _ h => h
  os := rfl
  gens := fun h => h
theorem Rep.ext0 {ρ : Rho} {σ : St} {h h' : Heap} (R : Rep C env ρ σ h) (he : Heap.ExtBut h.objs.size h h') : Rep C env ρ σ h' :=
  R.move (fun b o _ e => he b o (Nat.ne_of_lt (Heap.lt_size e)) e) (fun b o e _ => he b o (Nat.ne_of_lt (Heap.lt_size e)) e) (fun b o _ e => he b o (Nat.ne_of_lt (Heap.lt_size e)) e)
theorem da_tuple {elts : List PySem.Expr} {x1 : Nat} {pos : Pos} {n : Nat} {fs : List AV → M Unit} (hs : DAs C k env ((assignEach elts env).map (·.2)) fs) (hn : (assignEach elts env).length = n) (hst : (assignEach elts env).findIdx? (·.1) = none) :
    DO1 C k env RU (assign (.Tuple elts x1 pos) env) (unpM n fs) := by
  intro A σ a r σ' hA hm ρ s Q E v R V h
  unfold unpM at hm
  split at hm
  · split at hm
    · rename_i l hlen
      cases V with
      | tup ht W =>
        rename_i a₁ its
        refine wpAny_assign_Tuple (items := its.toArray) hA.1 ⟨_, ht, rfl, _, rfl⟩ (by rw [hn, List.size_toArray, ← W.length, hlen]) hst fun h' he => ?_
        have R' := R.ext0 he
        have S' : Sp env.locals ρ σ s ρ σ { s with heap := h' } := Sp.ext0 he
        exact hs A σ l r σ' hA hm ρ { s with heap := h' } Q E its R' (W.step S') fun ρ₂ s₂ R₂ S₂ => h ρ₂ s₂ () R₂ (S'.trans S₂) trivial
    · cases hm
  · cases hm
def swM (n : Nat) (fs : List AV → M Unit) : AV → M Unit
  | .tup l => fun σ => if l.length = n then fs l.reverse σ else none
  | _ => fun _ => none
/-- a, b, c = x, y, z by plain names of one line: the stores come in the other order -/
theorem ds_assign_swapped {elts : List PySem.Expr} {x1 : Nat} {tpos : Pos} {value : PySem.Expr} {pos : Pos} {m : M AV} {names : List Str} {n : Nat} {fs : List AV → M Unit} (he : DV C k env (eval value env) m)
    (hf : DAs C k env (names.reverse.map fun y => bindName env y) fs) (hn : names.length = n)
    (hs : swapsWithSole [.Tuple elts x1 tpos] value pos.line env = pure false) (hw : swappedStores [.Tuple elts x1 tpos] value env = pure (some names)) :
    DS C k env (exec (.Assign [.Tuple elts x1 tpos] value pos) env) (do let a ← m; swM n fs a; pure .next) := by
  intro A σ a σ' hA hm ρ s Q E R h
  obtain ⟨x, σ₁, hx, hm⟩ := bind_some hm
  obtain ⟨u, σ₂, hu, hm⟩ := bind_some hm
  obtain ⟨rfl, rfl⟩ := pure_some hm
  show wpAny _ _ (do
    standAt pos
    if ← swapsWithSole [.Tuple elts x1 tpos] value pos.line env then do
      evalThenUse value env fun v => assignAll v ((assignEach [.Tuple elts x1 tpos] env).map (·.2))
      pure .next
    else do
      let v ← eval value env
      assignStores env v (← swappedStores [.Tuple elts x1 tpos] value env) ((assignEach [.Tuple elts x1 tpos] env).map (·.2))) _ _ _
  rw [hs, hw]
  refine wpAny_bind (wpAny_standAt (wpAny_bind (wpAny_pure ?_)))
  show wpAny _ _ (do
      let v ← eval value env
      assignStores env v (← (pure (some names) : Sem (Option (List Str)))) ((assignEach [.Tuple elts x1 tpos] env).map (·.2))) _ _ _
  refine wpAny_bind (he A σ x σ₁ hA hx ρ s _ E R fun ρ₁ s₁ v₁ R₁ S₁ V₁ => wpAny_bind (wpAny_pure ?_))
  show wpAny _ _ (do
    rule "assign.swapped-stores"
    let items ← unpackItems v₁ names.length none
    assignInOrder (names.reverse.map fun n => bindName env n) items.reverse
    pure Flow.next) _ _ _
  cases V₁ with
  | tup ht W =>
    rename_i l a₁ its
    replace hu : (if l.length = n then fs l.reverse σ₁ else none) = some (u, σ₂) := hu
    split at hu
    · rename_i hlen
      refine wpAny_bind (wpAny_rule (wpAny_bind ?_))
      have e : names.length = its.toArray.size := by rw [hn, List.size_toArray, ← W.length, hlen]
      rw [e]
      refine wpAny_unpackItems_tuple (items := its.toArray) hA.1 ⟨_, ht, rfl, _, rfl⟩ fun h' he' => wpAny_bind ?_
      have R' := R₁.ext0 he'
      have S' : Sp env.locals ρ₁ σ₁ s₁ ρ₁ σ₁ { s₁ with heap := h' } := Sp.ext0 he'
      have Wr : VRels C.mC h' ρ₁ l.reverse its.toArray.toList.reverse := by simpa using VRels.reverse (W.step S')
      exact hf A σ₁ l.reverse u σ₂ hA hu ρ₁ { s₁ with heap := h' } _ E _ R' Wr fun ρ₂ s₂ R₂ S₂ => wpAny_pure (h ρ₂ s₂ _ R₂ ((S₁.trans S').trans S₂) .next)
    · cases hu
  | _ => cases hu
theorem bind_local {x : Str} (i : Nat) (hi : env.scope.names[i]? = some (x, .local)) : DO1 C k env RU (bindName env x) (stM i) :=
  fun A σ a r σ' hA hm ρ s Q E v R V h => wpAny_bindName (store_local i hi A σ a r σ' hA hm ρ s Q E v R V h)
end
end Mine

open PySem PySem.W PyProof.Rows
set_option Elab.async false
set_option maxRecDepth 100000
set_option maxHeartbeats 1000000
set_option linter.unusedVariables false
namespace Mine
section
variable {C : Cx} {k : Nat} {env : Env}
/-! a def of the text, called -/
def retOf : Fl → AV
  | .ret v => v
  | _ => .none
def fnM (bindf : List AV → Option (List (Option AV))) (mb : M Fl) : List AV → M AV := fun l σ => match bindf l with
  | some lc => (match mb ⟨σ.hp, lc⟩ with
    | some (f, σ') => some (retOf f, ⟨σ'.hp, σ.lc⟩)
    | none => none)
  | none => none
/-- what binding the arguments gives -/
def Binds (C : Cx) (fd : FuncData) (scope : Scope) (bindf : List AV → Option (List (Option AV))) : Prop :=
  ∀ (l : List AV) (lc : List (Option AV)) (vs : List Value) (s : Shared) (ρ : Rho), bindf l = some lc → VRels C.mC s.heap ρ l vs → C.K.In s.heap → ∃ binds, BindsTo s fd ⟨vs, []⟩ binds ∧ (∀ y ∈ binds, scope.names.lookup y.1 = some .local) ∧
    ∀ (i : Nat) (av : AV), lc[i]? = some (some av) → ∃ x v, scope.names[i]? = some (x, .local) ∧ binds.reverse.lookup x = some v ∧ VRel C.mC s.heap ρ av v
/-- a call's code, seen from one frame -/
def DCode (C : Cx) (k : Nat) (env : Env) (f : Value) (g : List AV → M AV) : Prop :=
  ∀ (A : Around) (σ : St) (l : List AV) (a : AV) (σ' : St), AOk k A → g l σ = some (a, σ') → ∀ (ρ : Rho) (s : Shared) (Q : Result → Shared → Prop) (vs : List Value), Rep C env ρ σ s.heap → VRels C.mC s.heap ρ l vs →
    (∀ ρ' s' v, Rep C env ρ' σ' s'.heap → Sp env.locals ρ σ s ρ' σ' s' → VRel C.mC s'.heap ρ' a v → Q (.ok (.ret v)) s') → codeAny (model C.prog C.w) A (.call f ⟨vs, []⟩) Q s
theorem DCode.dc {f : Value} {g : List AV → M AV} (h : DCode C k env f g) : DC C k env (RV C) (fun vs => call f vs) g :=
  fun A σ l a σ' hA hm ρ s Q E vs R V hh => wpAny_call (h A σ l a σ' hA hm ρ s _ vs R V fun ρ' s' v R' S' V' => hh ρ' s' v R' S' V')
theorem dcode_fn {f : Addr} {oc : Value} {od : Option Addr} {osl : Array (Option Value)} {name qual : Str} {params : Arguments} {body : List Stmt} {scope : Scope} {dV kV doc pm : Value} {an : Option Addr} {cdv ct : Value} {bindf : List AV → Option (List (Option AV))} {mb : M Fl}
    (ho : C.K.lookup f = some ⟨oc, od, .func (fnOf name qual params body scope dV kV doc pm an cdv ct), osl⟩) (hcd : codeIn C.K cdv qual = true)
    (hb : Binds C (fnOf name qual params body scope dV kV doc pm an cdv ct) scope bindf)
    (hbody : ∀ L, DS C k (envOf qual scope L f cdv) (execs body (envOf qual scope L f cdv)) mb) (hk : scope.kind = .function) (hnd : (scope.names.map (·.1)).Nodup) (hcell : ∀ x ∈ scope.names, x.2 ≠ .cell)
    (hco : scope.isCoroutine = false) (hgen : scope.isGenerator = false) : DCode C (k + 1) env (.ref f) (fnM bindf mb) := by
  intro A σ l a σ' hA hm ρ s Q vs R V h
  unfold fnM at hm
  split at hm
  · rename_i lc hlc
    split at hm
    · rename_i fl σ'' hmb
      cases hm
      have hK : C.K.In s.heap := fun a o e => R.base _ _ (C.X a o e)
      obtain ⟨binds, hB, hloc, hlcs⟩ := hb l lc vs s ρ hlc V hK
      have hnl : s.heap.NoLimit := C.T.nolimit.keeps R.base
      refine codeAny_call_def (fd := fnOf name qual params body scope dV kV doc pm an cdv ct) (body := body) (binds := binds) (by have := hA.2.1; show A.depth < 1000; omega) (hK _ _ ho) rfl hnl (codeRec_of hK hcd) rfl hB hcell hloc (fun h₁ hns hk₁ => ?_) hco hgen hk
      show wpAny _ (A.deeper (envOf qual scope s.heap.objs.size f cdv)) (execs body (envOf qual scope s.heap.objs.size f cdv)) _ _ _
      have hA' : AOk k (A.deeper (envOf qual scope s.heap.objs.size f cdv)) := ⟨hA.1, by have := hA.2.1; show A.depth + 1 + 2 * k ≤ 400; omega, by have := hA.2.2; show A.units + 3 + 40 * k ≤ 1000; omega⟩
      have hfz : ∀ b o, s.heap.get? b = some o → Frozen o → h₁.get? b = some o := fun b o e _ => hk₁ b o e
      have R₁ : Rep C (envOf qual scope s.heap.objs.size f cdv) ρ ⟨σ.hp, lc⟩ h₁ := {
        base := fun b o e => hk₁ b o (R.base b o e)
        above := Nat.le_of_lt (Nat.lt_of_le_of_lt R.above R.lsize)
        ns := ⟨_, hns, fun i av e => by
          obtain ⟨x, v, hx, hv, hV⟩ := hlcs i av e
          exact ⟨x, .local, hx, .inl ⟨rfl, v, hv, hV.mono hfz (fun _ _ e => e)⟩⟩⟩
        len := R.len
        objs := fun n o q ho hq => by
          obtain ⟨a, d⟩ := q
          exact (R.objs n o _ ho hq).keep hfz (fun _ _ e => e) (fun o e => hk₁ _ o e) (fun o e => hk₁ _ o e)
        fresh := fun n a d e => by
          have h1 := R.fresh n a d e
          have h2 := R.lt e
          exact ⟨h1.1, h1.2.1, Nat.ne_of_lt h2.1, Nat.ne_of_lt h2.2⟩
        sep := R.sep
        names := hnd
        kind := hk
        globs := rfl
        blts := rfl }
      refine hbody s.heap.objs.size _ ⟨σ.hp, lc⟩ fl σ'' hA' hmb ρ { s with heap := h₁, toks := s.toks + binds.length } _ _ R₁ fun ρ' s' v R' S' V' => ?_
      have hLlive : ∀ b o, s.heap.get? b = some o → b ≠ s.heap.objs.size := fun b o e => Nat.ne_of_lt (Heap.lt_size e)
      have hLfoot : ¬ foot ρ ⟨σ.hp, lc⟩ env.locals := by
        rintro ⟨n, a, d, e, _, hb⟩
        have := R.fresh n a d e
        rcases hb with hb | hb
        · exact this.2.2.1 hb.symm
        · exact this.2.2.2 hb.symm
      have hkeep : ∀ b o, s.heap.get? b = some o → ¬ foot ρ ⟨σ.hp, lc⟩ b → s'.heap.get? b = some o := fun b o e hf => S'.keep b o (hk₁ b o e) hf (hLlive b o e)
      have hfz' : ∀ b o, s.heap.get? b = some o → Frozen o → s'.heap.get? b = some o := fun b o e hf => S'.frz b o (hk₁ b o e) hf
      have hnew : ∀ (n a d : Nat), ρ.length ≤ n → ρ'[n]? = some (a, d) → s.heap.get? a = none ∧ s.heap.get? d = none := fun n a d hn e => by
        have := S'.new n a d hn e
        refine ⟨?_, ?_⟩
        · cases q : s.heap.get? a with
          | none => rfl
          | some o => have h1 := hk₁ _ _ q; have h2 : h₁.get? a = none := (S'.new n a d hn e).1; rw [h2] at h1; cases h1
        · cases q : s.heap.get? d with
          | none => rfl
          | some o => have h1 := hk₁ _ _ q; have h2 : h₁.get? d = none := (S'.new n a d hn e).2; rw [h2] at h1; cases h1
      obtain ⟨mm, hmm, hsl⟩ := R.ns
      obtain ⟨oL, esL, epL, hpL, hrL⟩ := id hmm
      have hLsome : s.heap.get? env.locals = some oL := hpL
      have R₂ : Rep C env ρ' ⟨σ''.hp, σ.lc⟩ s'.heap := {
        base := R'.base
        above := R.above
        ns := ⟨mm, ns_keep hmm (fun o e => hkeep _ o e hLfoot), fun i av e => (hsl i av e).mono hfz' S'.ext⟩
        len := R'.len
        objs := R'.objs
        fresh := fun n a d e => by
          have h1 := R'.fresh n a d e
          refine ⟨h1.1, h1.2.1, ?_, ?_⟩
          · by_cases hn : n < ρ.length
            · have e1 : ρ[n]? = some ρ[n] := List.getElem?_eq_getElem hn
              have e2 := S'.ext n _ e1
              rw [e] at e2
              exact (R.fresh n a d (by rw [e1, ← e2])).2.2.1
            · rintro rfl
              rw [(hnew n _ _ (Nat.le_of_not_lt hn) e).1] at hLsome; cases hLsome
          · by_cases hn : n < ρ.length
            · have e1 : ρ[n]? = some ρ[n] := List.getElem?_eq_getElem hn
              have e2 := S'.ext n _ e1
              rw [e] at e2
              exact (R.fresh n a d (by rw [e1, ← e2])).2.2.2
            · rintro rfl
              rw [(hnew n _ _ (Nat.le_of_not_lt hn) e).2] at hLsome; cases hLsome
        sep := R'.sep
        names := R.names
        kind := R.kind
        globs := R.globs
        blts := R.blts }
      have S₂ : Sp env.locals ρ σ s ρ' ⟨σ''.hp, σ.lc⟩ s' := {
        ext := S'.ext
        keep := fun b o e hf _ => hkeep b o e hf
        frz := hfz'
        new := hnew
        live := fun b o e => S'.live b o (hk₁ b o e)
        lock := S'.lock
        os := S'.os
        gens := S'.gens }
      cases V' with
      | next => exact h ρ' s' _ R₂ S₂ .none
      | brk => exact h ρ' s' _ R₂ S₂ .none
      | cont => exact h ρ' s' _ R₂ S₂ .none
      | ret W => exact h ρ' s' _ R₂ S₂ W
    · cases hm
  · cases hm
end
end Mine

open PySem PySem.W PyProof.Rows
set_option Elab.async false
set_option maxRecDepth 100000
set_option maxHeartbeats 1000000
set_option linter.unusedVariables false
namespace Mine
section
variable {C : Cx} {k : Nat} {env : Env}
/-! attributes of an instance -/
def hOk : AV → Bool
  | .st v => handedIn v
  | _ => true
def attrM (i : Nat) : AV → M AV
  | .ref n => fun σ => match σ.hp[n]? with
    | some (.inst l) => (match l[i]? with
      | some (some v) => if hOk v then some (v, σ) else none
      | _ => none)
    | _ => none
  | _ => fun _ => none
theorem handed_of {mC : Addr} {h : Heap} {ρ : Rho} {a : AV} {v : Value} (V : VRel mC h ρ a v) (ho : hOk a = true) : handedIn v = true := by
  cases V <;> first | rfl | exact ho
theorem getL_some {es : Array DictEntry} {x : Str} {v : Value} (h : nsFind es x = some v) : getL x es.toList = some (some v) := by
  unfold nsFind findBy at h
  rw [← Array.find?_toList] at h
  unfold getL
  cases e : List.find? (fun x_1 => x_1.key.isStr x) es.toList with
  | none => rw [e] at h; cases h
  | some y => rw [e] at h; simpa using h
theorem getL_isSome {es : Array DictEntry} {x : Str} (hk : StrKeys es) : (getL x es.toList).isSome = true := by
  unfold getL
  split
  · rfl
  · have : es.toList.any (·.refKey) = false := by
      rw [List.any_eq_false]
      intro e he
      obtain ⟨n, t, hn⟩ := hk e (by simpa using he)
      simp [DictEntry.refKey, hn]
    rw [this]; rfl
theorem attr_str {es : Array DictEntry} (h : AttrKeys es) : StrKeys es := fun e he => let ⟨n, t, q, _⟩ := h e he; ⟨n, t, q⟩
theorem getL_none {es : Array DictEntry} {x : Str} (h : AttrKeys es) (hx : attrNames.contains x = false) : getL x es.toList = some none := by
  unfold getL
  have h1 : es.toList.find? (·.key.isStr x) = none := by
    rw [List.find?_eq_none]
    intro e he
    obtain ⟨n, t, q, hm⟩ := h e (by simpa using he)
    rw [q]
    intro hn
    have : n = x := by simpa [Value.isStr] using hn
    subst this
    rw [List.contains_eq_mem] at hx
    simp [hm] at hx
  rw [h1]
  have : es.toList.any (·.refKey) = false := by
    rw [List.any_eq_false]
    intro e he
    obtain ⟨n, t, q, hm⟩ := h e (by simpa using he)
    simp [DictEntry.refKey, q]
  rw [this]; rfl
theorem inst_at {h : Heap} {a d : Nat} {es : Array DictEntry} {n : Nat} {c : Addr} (h1 : h.get? a = some (instObj c d)) (h2 : h.get? d = some { cls := .type "dict", data := .dict es n }) : InstAt h a (instObj c d) c (some (dictOf es.toList n)) :=
  ⟨h1, rfl, rfl, by simpa using h2⟩
theorem den_attr {value : PySem.Expr} {x : Str} {pos : Pos} {m : M AV} (i : Nat) {attr : Option Value} (he : DV C k env (eval value env) m) (hi : attrNames[i]? = some x) (hb : attributeBase value x env (eval value env) = eval value env)
    (hg : plainGet C.K C.sC x = true) (hh : hasDictIn C.K C.sC = true) (ha : findIn C.K (.ref C.sC) x = some attr) (hn : noGet C.K attr = true) :
    DV C k env (eval (.Attribute value x pos) env) (do let a ← m; attrM i a) := by
  intro A σ a σ' hA hm ρ s Q E R h
  obtain ⟨y, σ₁, hy, hm⟩ := bind_some hm
  show wpAny _ _ (do
    let o ← attributeBase value x env (eval value env)
    standAt pos.atName
    let r ← holding [o] (getAttr o x true)
    letTemporaryGo value o r
    pure r) _ _ _
  rw [hb]
  refine wpAny_bind (he A σ y σ₁ hA hy ρ s _ E R fun ρ₁ s₁ v₁ R₁ S₁ V₁ => wpAny_bind (wpAny_standAt (wpAny_bind (wpAny_holding ?_))))
  unfold attrM at hm
  split at hm
  · rename_i n _
    split at hm
    · rename_i l hl
      split at hm
      · rename_i v hv
        split at hm
        · rename_i hok
          cases hm
          cases V₁ with
          | ref hr =>
            obtain ⟨a₁, d₁, hq, hne, hp, es, ep, hd, ⟨hsk, hz⟩, hat⟩ := R₁.at hl
            rw [hr] at hq; cases hq
            obtain ⟨x', w, hx', hf, hV⟩ := hat i _ hv
            rw [hi] at hx'; cases hx'
            obtain ⟨mm, hns, _⟩ := R₁.ns
            refine get_own (R₁.fr hns) C.X (inst_at hp hd) hg hh ha hn (getL_some hf) (handed_of hV hok) ?_
            exact wpAny_bind (wpAny_letTemporaryGo (wpAny_pure (h ρ₁ _ _ R₁ (S₁.trans (Sp.toks _)) hV)))
        · cases hm
      · cases hm
    · cases hm
  · cases hm
theorem nsFind_putL {x y : Str} {hsh : Int} {t : Tok} {v : Value} : ∀ {es : List DictEntry}, (∀ e ∈ es, ∃ n t, e.key = .str n t) → nsFind (putL x hsh (.str x t) v es).toArray y = if y = x then some v else nsFind es.toArray y := by
  intro es
  induction es with
  | nil =>
    intro _
    simp only [putL, nsFind, findBy]
    by_cases hxy : y = x
    · subst hxy; simp [Value.isStr]
    · have : (x == y) = false := by simpa using fun q => hxy q.symm
      simp [Value.isStr, hxy, this]
  | cons e r ih =>
    intro hk
    obtain ⟨n, tt, hn⟩ := hk e (by simp)
    have ih' := ih fun e he => hk e (by simp [he])
    simp only [nsFind, findBy, List.find?_toArray] at ih' ⊢
    simp only [putL, hn, Value.isStr]
    by_cases hnx : n = x
    · subst hnx
      simp only [beq_self_eq_true, if_true, List.find?_cons, Value.isStr]
      by_cases hxy : y = n
      · subst hxy; simp
      · have : (n == y) = false := by simpa using fun q => hxy q.symm
        simp [this, hxy, hn, Value.isStr]
    · have h1 : (n == x) = false := by simpa using hnx
      simp only [h1, Bool.false_eq_true, if_false, List.find?_cons, hn, Value.isStr]
      by_cases hny : n = y
      · subst hny
        simp [hnx]
      · have : (n == y) = false := by simpa using hny
        simp only [this]
        exact ih'
theorem putL_len {x : Str} {hsh : Int} {key v : Value} : ∀ {es : List DictEntry}, (putL x hsh key v es).length ≤ es.length + 1 ∧ ((∃ w, nsFind es.toArray x = some w) → (putL x hsh key v es).length ≤ es.length)
  | [] => ⟨by simp [putL], fun ⟨w, h⟩ => by simp [nsFind, findBy] at h⟩
  | e :: r => by
    have ih := putL_len (x := x) (hsh := hsh) (key := key) (v := v) (es := r)
    simp only [putL]
    split
    · exact ⟨by simp, fun _ => by simp⟩
    · rename_i hne
      refine ⟨by simp only [List.length_cons]; omega, fun ⟨w, h⟩ => ?_⟩
      have : ∃ w, nsFind r.toArray x = some w := ⟨w, by
        simp only [nsFind, findBy, List.find?_toArray, List.find?_cons] at h ⊢
        have hne' : e.key.isStr x = false := by simpa using hne
        simpa [hne'] using h⟩
      have := ih.2 this
      simp only [List.length_cons]; omega
theorem putL_keys {P : Str → Prop} {x : Str} {hsh : Int} {t : Tok} {v : Value} (hx : P x) : ∀ {es : List DictEntry}, (∀ e ∈ es, ∃ n t, e.key = .str n t ∧ P n) → ∀ e ∈ putL x hsh (.str x t) v es, ∃ n t, e.key = .str n t ∧ P n
  | [], _, e, he => by simp [putL] at he; subst he; exact ⟨x, t, rfl, hx⟩
  | e₀ :: r, hk, e, he => by
    simp only [putL] at he
    split at he
    · rcases List.mem_cons.mp he with rfl | he
      · exact hk e₀ (by simp)
      · exact hk e (by simp [he])
    · rcases List.mem_cons.mp he with rfl | he
      · exact hk e (by simp)
      · exact putL_keys hx (fun e he => hk e (by simp [he])) e he
def setAttrM (i : Nat) : AV → AV → M Unit
  | .ref n, v => fun σ => match σ.hp[n]? with
    | some (.inst l) => if i < l.length ∧ l.length ≤ 100 then some ((), { σ with hp := σ.hp.set n (.inst (l.set i (some v))) }) else none
    | _ => none
  | _, _ => fun _ => none

/-- all that lives beside the frame, the ground and one object, as a ledger -/
def allN (h₀ : Heap) (L : Addr) (h : Heap) (dx : Addr) : List (Addr × Obj) := (List.range h.objs.size).filterMap fun b => if b ≠ dx ∧ b ≠ L then (match h₀.get? b with
  | none => (h.get? b).map fun o => (b, o)
  | some _ => none) else none
theorem allN_news {h₀ : Heap} {L : Addr} {h : Heap} {dx : Addr} : (∀ p ∈ allN h₀ L h dx, h.get? p.1 = some p.2 ∧ p.1 ≠ L ∧ h₀.get? p.1 = none ∧ p.1 ≠ dx) := by
  intro p hp
  unfold allN at hp
  obtain ⟨b, _, hb⟩ := List.mem_filterMap.mp hp
  split at hb
  · rename_i hc
    split at hb
    · rename_i h0
      obtain ⟨o, ho, rfl⟩ := Option.map_eq_some_iff.mp hb
      exact ⟨ho, hc.2, h0, hc.1⟩
    · cases hb
  · cases hb
theorem allN_mem {h₀ : Heap} {L : Addr} {h : Heap} {dx b : Addr} {o : Obj} (hb : h.get? b = some o) (h1 : b ≠ dx) (h2 : b ≠ L) (h3 : h₀.get? b = none) : (b, o) ∈ allN h₀ L h dx := by
  unfold allN
  refine List.mem_filterMap.mpr ⟨b, List.mem_range.mpr (Heap.lt_size hb), ?_⟩
  rw [if_pos ⟨h1, h2⟩, h3, hb]; rfl
theorem Sp.upd {ρ : Rho} {σ σ' : St} {s s' : Shared} {L x : Addr} (hx : foot ρ σ x) (hs : ∀ b o, b ≠ x → b ≠ L → s.heap.get? b = some o → s'.heap.get? b = some o) (hnf : ∀ o, s.heap.get? x = some o → ¬ Frozen o) (hnL : ∀ o, s.heap.get? L = some o → ¬ Frozen o)
    (hl : ∃ o, s'.heap.get? x = some o) (hlL : ∃ o, s'.heap.get? L = some o) (hlk : ∀ n : Nat, σ.hp[n]? = some .lock → σ'.hp[n]? = some .lock) (hos : s'.os = s.os) (hg : s'.gens = s.gens) : Sp L ρ σ s ρ σ' s' where
  ext := fun _ _ h => h
  keep := fun b o e hb hL => hs b o (by rintro rfl; exact hb hx) hL e
  frz := fun b o e hf => hs b o (by rintro rfl; exact hnf o e hf) (by rintro rfl; exact hnL o e hf) e
  new := fun n a d hn hr => by
    have := (List.getElem?_eq_some_iff.mp hr).1
    omega
  live := fun b o e => by
    by_cases hb : b = x
    · subst hb; exact hl
    · by_cases hL : b = L
      · subst hL; exact hlL
      · exact ⟨o, hs b o hb hL e⟩
  lock := hlk
  os := hos
  gens := fun h => by rw [hg]; exact h
/-- an object of the abstract heap turned, the frame as it was -/
theorem Rep.set' {ρ : Rho} {σ : St} {h h' : Heap} {n a d x : Nat} {o' : AO} {m : Str → Option Value} (R : Rep C env ρ σ h) (hq : ρ[n]? = some (a, d)) (hx : x = a ∨ x = d) (hs : ∀ b o, b ≠ x → b ≠ env.locals → h.get? b = some o → h'.get? b = some o)
    (hnf : ∀ o, h.get? x = some o → ¬ Frozen o) (hm : h.Ns env.locals m) (hm' : h'.Ns env.locals m) (hsl : ∀ (i : Nat) (av : AV), σ.lc[i]? = some (some av) → SlotR C env h ρ m i av) (hr : ORel C h' ρ o' (a, d)) : Rep C env ρ { σ with hp := σ.hp.set n o' } h' := by
  have hf : ∀ b o, h.get? b = some o → Frozen o → h'.get? b = some o := fun b o e hf =>
    hs b o (by rintro rfl; exact hnf o e hf) (by rintro rfl; exact notFrozen_ns hm o e hf) e
  have hfr := R.fresh n a d hq
  exact {
    base := fun b o e => by
      have hb := Heap.lt_size e
      have : b ≠ x := by
        rintro rfl
        rcases hx with rfl | rfl
        · exact absurd hb (Nat.not_lt.mpr hfr.1)
        · exact absurd hb (Nat.not_lt.mpr hfr.2.1)
      exact hs b o this (by rintro rfl; exact absurd hb (Nat.not_lt.mpr R.above)) (R.base b o e)
    above := R.above
    ns := ⟨m, hm', fun i av e => (hsl i av e).mono hf (fun _ _ e => e)⟩
    len := by simp only [List.length_set, R.len]
    objs := fun m o q ho hq' => by
      obtain ⟨a', d'⟩ := q
      rw [List.getElem?_set] at ho
      have hfr' := R.fresh m a' d' hq'
      by_cases hnm : n = m
      · subst hnm
        rw [hq] at hq'; cases hq'
        rw [if_pos rfl] at ho
        split at ho
        · simp only [Option.some.injEq] at ho; subst ho; exact hr
        · cases ho
      · rw [if_neg hnm] at ho
        have hsep := R.sep n m a d a' d' hq hq' hnm
        refine (R.objs m o _ ho hq').keep hf (fun _ _ e => e) (fun o e => ?_) (fun o e => ?_)
        · have : a' ≠ x := by rcases hx with rfl | rfl; exact fun q => hsep.1 q.symm; exact fun q => hsep.2.2.1 q.symm
          exact hs _ o this hfr'.2.2.1 e
        · have : d' ≠ x := by rcases hx with rfl | rfl; exact fun q => hsep.2.1 q.symm; exact fun q => hsep.2.2.2 q.symm
          exact hs _ o this hfr'.2.2.2 e
    fresh := R.fresh
    sep := R.sep
    names := R.names
    kind := R.kind
    globs := R.globs
    blts := R.blts }
theorem countP_set {l : List (Option AV)} {i : Nat} {v : AV} (hi : i < l.length) : (l.set i (some v)).countP (·.isSome) = l.countP (·.isSome) + (if (l[i]?.join).isSome then 0 else 1) := by
  rw [List.countP_set hi]
  have e : l[i]? = some l[i] := List.getElem?_eq_getElem hi
  rw [e]
  cases q : l[i] with
  | none => simp
  | some w =>
    have : 0 < l.countP (·.isSome) := List.countP_pos_iff.mpr ⟨l[i], List.getElem_mem hi, by rw [q]; rfl⟩
    simp [q]
    omega
theorem da_attr {o : PySem.Expr} {x : Str} {pos : Pos} {mo : M AV} (i : Nat) (he : DV C k env (eval o env) mo) (hi : attrNames[i]? = some x)
    (hs : findIn C.K (.ref C.sC) "__setattr__" = some (some (.builtin "object.__setattr__"))) (hp : plainOver C.K C.sC = true) (ht : takerIn C.K C.sC x = some none) (hh : hasDictIn C.K C.sC = true) (hw : ∀ j < attrNames.length, attrNames[j]? = some x → j = i) :
    DO1 C k env RU (assign (.Attribute o x pos) env) (fun v => do let a ← mo; setAttrM i a v) := by
  intro A σ v r σ' hA hm ρ s Q E w R V h
  obtain ⟨y, σ₁, hy, hm⟩ := bind_some hm
  show wpAny _ _ (do
    let ov ← holding [w] (eval o env)
    standAt pos.atName
    holding [w, ov] (setAttr ov x w)
    release [w, ov] []) _ _ _
  refine wpAny_bind (wpAny_holding (he A σ y σ₁ hA hy ρ s _ E R fun ρ₁ s₁ v₁ R₁ S₁ V₁ => wpAny_bind (wpAny_standAt (wpAny_bind (wpAny_holding ?_)))))
  have V' := V.step S₁
  cases y with
  | ref n =>
    replace hm : (match σ₁.hp[n]? with
      | some (.inst l) => if i < l.length ∧ l.length ≤ 100 then some ((), { σ₁ with hp := σ₁.hp.set n (.inst (l.set i (some v))) }) else none
      | _ => none) = some (r, σ') := hm
    split at hm
    · rename_i l hl
      split at hm
      · rename_i hil
        cases hm
        cases V₁ with
        | ref hr =>
          rename_i aa dd
          obtain ⟨a₁, d₁, hq, hne, hp₁, es, ep, hd, ⟨hsk, hz⟩, hat⟩ := R₁.at hl
          obtain ⟨rfl, rfl⟩ : a₁ = aa ∧ d₁ = dd := by rw [hr] at hq; cases hq; exact ⟨rfl, rfl⟩
          obtain ⟨mm, hns, hsl⟩ := R₁.ns
          have hfr := R₁.fresh n _ d₁ hr
          have N : News C.h₀ env.locals s₁.heap ((d₁, dictOf es.toList ep) :: allN C.h₀ env.locals s₁.heap d₁) := by
            intro p hp
            rcases List.mem_cons.mp hp with rfl | hp
            · refine ⟨by simpa using hd, hfr.2.2.2, ?_⟩
              cases q : C.h₀.get? d₁ with
              | none => rfl
              | some o => exact absurd (Heap.lt_size q) (Nat.not_lt.mpr hfr.2.1)
            · exact ⟨(allN_news p hp).1, (allN_news p hp).2.1, (allN_news p hp).2.2.1⟩
          have hcnt : l.countP (·.isSome) ≤ l.length := List.countP_le_length
          have hlen := putL_len (x := x) (hsh := PyData.keyHash C.w.params x) (key := .str x (s₁.toks + 1)) (v := w) (es := es.toList)
          refine set_dict (R₁.fr hns) C.X N (inst_at hp₁ hd) rfl hs hp ht hh (getL_isSome (attr_str hsk)) rfl (Upd.head fun p hp => (allN_news p hp).2.2.2) ?_ fun h' F' N' => ?_
          · have : es.toList.length = es.size := Array.length_toList
            have := hlen.1
            omega
          · have hd' : h'.get? d₁ = some (dictOf (putL x (PyData.keyHash C.w.params x) (.str x (s₁.toks + 1)) w es.toList) (putN x es.toList ep)) := (N' _ (List.mem_cons_self ..)).1
            have hkeep : ∀ b o, b ≠ d₁ → b ≠ env.locals → s₁.heap.get? b = some o → h'.get? b = some o := fun b o h1 h2 e => by
              cases q : C.h₀.get? b with
              | some o' =>
                have e1 := R₁.base b o' q
                rw [e] at e1; cases e1
                exact F'.keep b o q
              | none => exact (N' (b, o) (List.mem_cons_of_mem _ (allN_mem e h1 h2 q))).1
            have hkeysA : ∀ e ∈ es.toList, ∃ n t, e.key = .str n t ∧ n ∈ attrNames := fun e he => hsk e (by simpa using he)
            have hkeys : ∀ e ∈ es.toList, ∃ n t, e.key = .str n t := fun e he => let ⟨n, t, h, _⟩ := hkeysA e he; ⟨n, t, h⟩
            have hobj : ORel C h' ρ₁ (.inst (l.set i (some v))) (a₁, d₁) := by
              refine ⟨hne, hkeep _ _ hne hfr.2.2.1 hp₁, _, _, hd', ⟨fun e he => putL_keys (P := (· ∈ attrNames)) (List.mem_of_getElem? hi) hkeysA e (by simpa using he), ?_⟩, fun j av hj => ?_⟩
              · rw [countP_set hil.1, List.size_toArray]
                have hel : es.toList.length = es.size := Array.length_toList
                cases q : l[i]? with
                | none => simp; have := hlen.1; omega
                | some ov =>
                  cases ov with
                  | none => simp; have := hlen.1; omega
                  | some av =>
                    obtain ⟨x', w', hx', hf, _⟩ := hat i av q
                    rw [hi] at hx'; cases hx'
                    have := hlen.2 ⟨w', by simpa using hf⟩
                    simp; omega
              · have hfz : ∀ b o, s₁.heap.get? b = some o → Frozen o → h'.get? b = some o := fun b o e hf => hkeep b o (by
                  rintro rfl
                  rw [hd] at e; cases e; simp [Frozen] at hf) (by rintro rfl; exact notFrozen_ns hns o e hf) e
                rw [List.getElem?_set] at hj
                by_cases hij : i = j
                · subst hij
                  rw [if_pos rfl, if_pos hil.1] at hj
                  simp only [Option.some.injEq] at hj
                  subst hj
                  exact ⟨x, w, hi, by rw [nsFind_putL hkeys, if_pos rfl], V'.mono hfz (fun _ _ e => e)⟩
                · rw [if_neg hij] at hj
                  obtain ⟨x', w', hx', hf, hV⟩ := hat j av hj
                  refine ⟨x', w', hx', ?_, hV.mono hfz (fun _ _ e => e)⟩
                  have hne' : x' ≠ x := by
                    rintro rfl
                    exact hij (hw j (List.getElem?_eq_some_iff.mp hx').1 hx').symm
                  rw [nsFind_putL hkeys, if_neg hne']
                  simpa using hf
            have hnfd : ∀ o, s₁.heap.get? d₁ = some o → ¬ Frozen o := fun o e hf => by rw [hd] at e; cases e; simp [Frozen] at hf
            have R₂ := R₁.set' hr (.inr rfl) hkeep hnfd hns F'.ns hsl hobj
            have S₂ : Sp env.locals ρ₁ σ₁ s₁ ρ₁ { σ₁ with hp := σ₁.hp.set n (.inst (l.set i (some v))) } { s₁ with heap := h', toks := s₁.toks + 2 } :=
              Sp.upd ⟨n, _, d₁, hr, by rw [hl]; simp, .inr rfl⟩ hkeep hnfd (notFrozen_ns hns) ⟨_, hd'⟩ (let ⟨o, _, _, p, _⟩ := F'.ns; ⟨o, p⟩) (fun m hm => by
                show (σ₁.hp.set n _)[m]? = _
                rw [List.getElem?_set]
                by_cases hnm : n = m
                · subst hnm; rw [hl] at hm; cases hm
                · rw [if_neg hnm]; exact hm) rfl rfl
            exact wpAny_release (h ρ₁ _ () R₂ (S₁.trans S₂) trivial)
      · cases hm
    · cases hm
  | _ => cases hm
end
end Mine

open PySem PySem.W PyProof.Rows
set_option Elab.async false
set_option maxRecDepth 100000
set_option maxHeartbeats 1000000
set_option linter.unusedVariables false
namespace Mine
section
variable {C : Cx} {k : Nat} {env : Env}
theorem Cx.big (C : Cx) : sysModules < C.h₀.objs.size := by
  obtain ⟨o, es, ep, p, _⟩ := C.T.g
  have := Heap.lt_size p
  exact Nat.lt_trans (show sysModules < mainGlobals by decide) this
theorem Rep.notSys {ρ : Rho} {σ : St} {h : Heap} (R : Rep C env ρ σ h) {n a d : Nat} (e : ρ[n]? = some (a, d)) : (a == sysModules) = false := by
  have h1 := (R.fresh n a d e).1
  have h2 := C.big
  have : a ≠ sysModules := Nat.ne_of_gt (Nat.lt_of_lt_of_le h2 h1)
  simpa using this
/-! lists of pairs -/
def getD (l : List (Int × AV)) (k : Int) : Option AV := (l.find? fun kv => decide (kv.1 = k)).map (·.2)
def putD (l : List (Int × AV)) (k : Int) (v : AV) : List (Int × AV) := if l.any (fun kv => decide (kv.1 = k)) then l.map (fun kv => if kv.1 = k then (kv.1, v) else kv) else l ++ [(k, v)]
def delD (l : List (Int × AV)) (k : Int) : List (Int × AV) := l.filter fun kv => decide (kv.1 ≠ k)
theorem PairsR.nil {mC : Addr} {h : Heap} {ρ : Rho} : PairsR mC h ρ [] [] := ⟨rfl, .nil⟩
theorem PairsR.cons {mC : Addr} {h : Heap} {ρ : Rho} {x : Int} {a : AV} {v : Value} {l : List (Int × AV)} {kvs : List (Int × Value)} (V : VRel mC h ρ a v) (r : PairsR mC h ρ l kvs) : PairsR mC h ρ ((x, a) :: l) ((x, v) :: kvs) :=
  ⟨by simp only [List.map_cons, r.1], .cons V r.2⟩
theorem PairsR.ind {mC : Addr} {h : Heap} {ρ : Rho} {P : List (Int × AV) → List (Int × Value) → Prop} (h0 : P [] []) (h1 : ∀ x a v l kvs, VRel mC h ρ a v → PairsR mC h ρ l kvs → P l kvs → P ((x, a) :: l) ((x, v) :: kvs)) : ∀ {l : List (Int × AV)} {kvs : List (Int × Value)}, PairsR mC h ρ l kvs → P l kvs
  | [], [], _ => h0
  | [], _ :: _, r => by have := r.1; simp at this
  | _ :: _, [], r => by have := r.1; simp at this
  | (x, a) :: l, (y, v) :: kvs, r => by
    have e := r.1
    simp only [List.map_cons, List.cons.injEq] at e
    obtain ⟨rfl, e⟩ := e
    have V := r.2
    simp only [List.map_cons] at V
    cases V with
    | cons V W => exact h1 x a v l kvs V ⟨e, W⟩ (PairsR.ind h0 h1 ⟨e, W⟩)
theorem PairsR.length {mC : Addr} {h : Heap} {ρ : Rho} {l : List (Int × AV)} {kvs : List (Int × Value)} (r : PairsR mC h ρ l kvs) : l.length = kvs.length := by
  have := congrArg List.length r.1
  simpa using this
theorem PairsR.mono {mC : Addr} {h h' : Heap} {ρ ρ' : Rho} {l : List (Int × AV)} {kvs : List (Int × Value)} (hf : ∀ b o, h.get? b = some o → Frozen o → h'.get? b = some o) (he : ∀ (n : Nat) q, ρ[n]? = some q → ρ'[n]? = some q) (r : PairsR mC h ρ l kvs) : PairsR mC h' ρ' l kvs := ⟨r.1, r.2.mono hf he⟩
theorem PairsR.get {mC : Addr} {h : Heap} {ρ : Rho} {l : List (Int × AV)} {kvs : List (Int × Value)} (r : PairsR mC h ρ l kvs) (x : Int) :
    (getD l x = none → valueAt kvs x = none) ∧ ∀ a, getD l x = some a → ∃ v, valueAt kvs x = some v ∧ VRel mC h ρ a v := by
  refine PairsR.ind (P := fun l kvs => (getD l x = none → valueAt kvs x = none) ∧ ∀ a, getD l x = some a → ∃ v, valueAt kvs x = some v ∧ VRel mC h ρ a v) ⟨fun _ => rfl, fun a e => by simp [getD] at e⟩ (fun y a v l kvs V r ih => ?_) r
  simp only [getD, valueAt, List.find?_cons] at ih ⊢
  by_cases e : y = x
  · subst e; simp only [decide_true, Option.map_some]
    exact ⟨fun e => (by cases e), fun b e => (by cases e; exact ⟨v, rfl, V⟩)⟩
  · simp only [e, decide_false]; exact ih
theorem PairsR.any {mC : Addr} {h : Heap} {ρ : Rho} {l : List (Int × AV)} {kvs : List (Int × Value)} (r : PairsR mC h ρ l kvs) (x : Int) : l.any (fun kv => decide (kv.1 = x)) = kvs.any (fun kv => decide (kv.1 = x)) := by
  have e := congrArg (List.any · fun k => decide (k = x)) r.1
  simpa only [List.any_map, Function.comp_def] using e
theorem PairsR.append {mC : Addr} {h : Heap} {ρ : Rho} {l : List (Int × AV)} {kvs : List (Int × Value)} (r : PairsR mC h ρ l kvs) {x : Int} {a : AV} {v : Value} (V : VRel mC h ρ a v) : PairsR mC h ρ (l ++ [(x, a)]) (kvs ++ [(x, v)]) := by
  refine PairsR.ind (P := fun l kvs => PairsR mC h ρ (l ++ [(x, a)]) (kvs ++ [(x, v)])) (PairsR.cons V PairsR.nil) (fun y b u l kvs V _ ih => ?_) r
  exact PairsR.cons V ih
theorem PairsR.put {mC : Addr} {h : Heap} {ρ : Rho} {l : List (Int × AV)} {kvs : List (Int × Value)} (r : PairsR mC h ρ l kvs) {x : Int} {a : AV} {v : Value} (V : VRel mC h ρ a v) : PairsR mC h ρ (putD l x a) (stored kvs x v) := by
  unfold putD stored
  rw [r.any x]
  split
  · refine PairsR.ind (P := fun l kvs => PairsR mC h ρ (l.map fun kv => if kv.1 = x then (kv.1, a) else kv) (kvs.map fun kv => if kv.1 = x then (kv.1, v) else kv)) PairsR.nil (fun y b u l kvs W _ ih => ?_) r
    simp only [List.map_cons]
    by_cases e : y = x
    · subst e; simp only [if_true]; exact PairsR.cons V ih
    · simp only [e, if_false]; exact PairsR.cons W ih
  · exact r.append V
theorem PairsR.del {mC : Addr} {h : Heap} {ρ : Rho} {l : List (Int × AV)} {kvs : List (Int × Value)} (r : PairsR mC h ρ l kvs) (x : Int) : PairsR mC h ρ (delD l x) (without kvs x) := by
  unfold delD without
  refine PairsR.ind (P := fun l kvs => PairsR mC h ρ (l.filter fun kv => decide (kv.1 ≠ x)) (kvs.filter fun kv => decide (kv.1 ≠ x))) PairsR.nil (fun y b u l kvs W _ ih => ?_) r
  simp only [List.filter_cons]
  by_cases e : y = x
  · subst e; simp only [ne_eq, not_true_eq_false, decide_false, Bool.false_eq_true, if_false]; exact ih
  · simp only [ne_eq, e, not_false_eq_true, decide_true, if_true]; exact PairsR.cons W ih

/-! objects turned -/
theorem Rep.turn {ρ : Rho} {σ : St} {s : Shared} {h' : Heap} {n a d : Nat} {o o' : AO} (R : Rep C env ρ σ s.heap) (hq : ρ[n]? = some (a, d)) (ho : σ.hp[n]? = some o) (hl : o ≠ .lock) (hs : Heap.SameBut a s.heap h')
    (hr : ORel C h' ρ o' (a, d)) (t : Nat) : Rep C env ρ { σ with hp := σ.hp.set n o' } h' ∧ Sp env.locals ρ σ s ρ { σ with hp := σ.hp.set n o' } { s with heap := h', toks := t } := by
  have x := R.objs n o _ ho hq
  have hnf := x.notFrozen a (.inl rfl)
  refine ⟨R.set hq (.inl rfl) hs hnf hr, Sp.same (.inr ⟨n, a, d, hq, by rw [ho]; intro q; exact hl (by simpa using q), .inl rfl⟩) hs hnf ?_ (fun m hm => ?_) t⟩
  · have hlt := (R.lt hq).1
    cases o' with
    | list l => obtain ⟨rfl, its, ⟨n, p⟩, v⟩ := hr; exact ⟨_, p⟩
    | dict l => obtain ⟨rfl, kvs, ⟨o, es, ep, p, r⟩, q, v⟩ := hr; exact ⟨_, p⟩
    | set l => obtain ⟨rfl, ⟨m, o, es, ep, t, p, r⟩⟩ := hr; exact ⟨_, p⟩
    | inst l => obtain ⟨e, p, es, n, q, k, r⟩ := hr; exact ⟨_, p⟩
    | cell v => obtain ⟨rfl, w, ⟨o, p, r⟩, q⟩ := hr; exact ⟨_, p⟩
    | lock => obtain ⟨⟨o, p, _⟩, _⟩ := hr; exact ⟨_, p⟩
  · show (σ.hp.set n o')[m]? = _
    rw [List.getElem?_set]
    by_cases hnm : n = m
    · subst hnm; rw [ho] at hm; simp only [Option.some.injEq] at hm; exact absurd hm hl
    · rw [if_neg hnm]; exact hm
/-- what is as it was beside one object that isn't frozen -/
theorem frz_sameBut {h h' : Heap} {a : Nat} (hs : Heap.SameBut a h h') (hnf : ∀ o, h.get? a = some o → ¬ Frozen o) : ∀ b o, h.get? b = some o → Frozen o → h'.get? b = some o := fun b o e hf => by
  have : b ≠ a := by rintro rfl; exact hnf o e hf
  rw [hs.2 b this]; exact e
/-! methods of lists -/
def lim : Nat := 1000000
theorem lim_line : lim ≤ sizeLine := by decide
def appendM : List AV → M AV
  | [.ref n, v] => fun σ => match σ.hp[n]? with
    | some (.list l) => if l.length ≤ lim then some (.none, { σ with hp := σ.hp.set n (.list (l ++ [v])) }) else none
    | _ => none
  | _ => fun _ => none
theorem dc_append : DC C k env (RV C) (fun vs => call (.builtin "list.append") vs) appendM := by
  intro A σ l a σ' hA hm ρ s Q E vs R V h
  unfold appendM at hm
  split at hm
  · rename_i n v
    split at hm
    · rename_i l' hl'
      split at hm
      · rename_i hlen
        cases hm
        cases V with
        | cons x V => cases V with
          | cons y V => cases V with
            | nil => cases x with
              | ref hr =>
                rename_i w _ _
                obtain ⟨a, d, hq, rfl, items, hp, W⟩ := R.at hl'
                rw [hr] at hq; cases hq
                refine wpAny_list_append_plain (items := items.toArray) hp (fun h' hp' hs => ?_) ?_
                · have hnf := (R.objs n _ _ hl' hr).notFrozen _ (.inl rfl)
                  have hfz := frz_sameBut hs hnf
                  obtain ⟨R', S'⟩ := R.turn (o' := .list (l' ++ [v])) hr hl' (by simp) hs ⟨rfl, items ++ [w], by simpa using hp', (VRels.mono hfz (fun _ _ e => e) W).append (.cons (y.mono hfz fun _ _ e => e) .nil)⟩ s.toks
                  exact h ρ _ _ R' S' .none
                · rw [List.size_toArray, ← W.length]; exact Nat.le_trans hlen lim_line
      · cases hm
    · cases hm
  · cases hm
theorem VRels.dropLast {mC : Addr} {h : Heap} {ρ : Rho} : ∀ {l : List AV} {v : List Value}, VRels mC h ρ l v → VRels mC h ρ l.dropLast v.dropLast
  | _, _, .nil => .nil
  | _, _, .cons x .nil => .nil
  | _, _, .cons x (.cons y r) => by
    simp only [List.dropLast_cons_cons]
    exact .cons x (VRels.dropLast (.cons y r))
def popM : List AV → M AV
  | [.ref n] => fun σ => match σ.hp[n]? with
    | some (.list l) => if l.length ≤ lim then (match l[l.length - 1]? with
      | some v => some (v, { σ with hp := σ.hp.set n (.list l.dropLast) })
      | none => none) else none
    | _ => none
  | _ => fun _ => none
theorem dc_pop : DC C k env (RV C) (fun vs => call (.builtin "list.pop") vs) popM := by
  intro A σ l a σ' hA hm ρ s Q E vs R V h
  unfold popM at hm
  split at hm
  · rename_i n
    split at hm
    · rename_i l' hl'
      split at hm
      · rename_i hlen
        split at hm
        · rename_i y hy
          cases hm
          cases V with
          | cons x V => cases V with
            | nil => cases x with
              | @ref _ a₂ d₂ hr =>
                obtain ⟨a₁, d, hq, rfl, items, ⟨ep, hp⟩, W⟩ := R.at hl'
                rw [hr] at hq; cases hq
                obtain ⟨w, hw, hV⟩ := (W.get _).1 _ hy
                have hl2 := W.length
                refine call_meets PySem.F.slot_list_pop ⟨_, hp, rfl⟩ PySem.F.entry_list_pop (PySem.F.args_list_pop_1 _) (PySem.MeetsSeq.list_pop_last _ items.toArray ep w (by simpa [← hl2] using hw) (by rw [List.size_toArray, ← hl2]; exact Nat.le_trans hlen lim_line)) ⟨hp, ?_⟩
                have hs : Heap.SameBut a₂ s.heap (s.heap.update a₂ (Obj.mapSeq fun xs => xs.eraseIdxIfInBounds (items.toArray.size - 1))) := Heap.SameBut.update ..
                have hnf := (R.objs n _ _ hl' hr).notFrozen a₂ (.inl rfl)
                have hfz := frz_sameBut hs hnf
                have hob : (s.heap.update a₂ (Obj.mapSeq fun xs => xs.eraseIdxIfInBounds (items.toArray.size - 1))).get? a₂ = some (Obj.mapSeq (fun xs => xs.eraseIdxIfInBounds (items.toArray.size - 1)) { cls := .type "list", data := .seq items.toArray ep }) :=
                  Heap.get?_update_self _ hp rfl
                obtain ⟨R', S'⟩ := R.turn (o' := .list l'.dropLast) hr hl' (by simp) hs ⟨rfl, items.dropLast, ⟨ep + 1, by
                  rw [hob]
                  have hlt : items.length - 1 < items.length := by rw [hl2] at hw; exact (List.getElem?_eq_some_iff.mp hw).1
                  simp [Obj.mapSeq]
                  omega⟩, (VRels.mono hfz (fun _ _ e => e) W).dropLast⟩ s.toks
                exact h ρ _ _ R' S' (hV.mono hfz fun _ _ e => e)
        · cases hm
      · cases hm
    · cases hm
  · cases hm
/-! methods of dicts -/
def dgetM : List AV → M AV
  | [.ref n, .int k] => fun σ => match σ.hp[n]? with
    | some (.dict l) => some ((getD l k).getD .none, σ)
    | _ => none
  | [.ref n, .int k, d] => fun σ => match σ.hp[n]? with
    | some (.dict l) => some ((getD l k).getD d, σ)
    | _ => none
  | _ => fun _ => none
theorem isInt_int (i : Int) (t : Tok) : (intKind C.prog C.w).is i (.int i t) = true := by
  show Value.isInt i (.int i t) = true
  simp [Value.isInt]
theorem dc_dget : DC C k env (RV C) (fun vs => call (.builtin "dict.get") vs) dgetM := by
  intro A σ l a σ' hA hm ρ s Q E vs R V h
  unfold dgetM at hm
  split at hm
  · rename_i n i
    split at hm
    · rename_i l' hl'
      cases hm
      cases V with
      | cons x V => cases V with
        | cons y V => cases V with
          | nil => cases x with
            | ref hr =>
              cases y with
              | int _ t =>
                obtain ⟨a₁, d, hq, rfl, kvs, hd, hp⟩ := R.at hl'
                rw [hr] at hq; cases hq
                refine call_meetsIn PySem.F.slot_dict_get hd.typeIs PySem.F.entry_dict_get (PySem.F.args_dict_get_2 _ _) (meets_dict_get (intKind C.prog C.w) _ (isInt_int i t) (R.notSys hr)) ⟨_, hd.mapOf, ?_⟩
                have hg := hp.get i
                cases e : getD l' i with
                | none => rw [hg.1 e]; rw [e] at h; exact h ρ _ _ R (Sp.toks _) .none
                | some b => obtain ⟨v, hv, hV⟩ := hg.2 b e; rw [hv]; rw [e] at h; exact h ρ _ _ R (Sp.toks _) hV
    · cases hm
  · rename_i n i dv
    split at hm
    · rename_i l' hl'
      cases hm
      cases V with
      | cons x V => cases V with
        | cons y V => cases V with
          | cons z V => cases V with
            | nil => cases x with
              | ref hr =>
                cases y with
                | int _ t =>
                  obtain ⟨a₁, d, hq, rfl, kvs, hd, hp⟩ := R.at hl'
                  rw [hr] at hq; cases hq
                  refine call_meetsIn PySem.F.slot_dict_get hd.typeIs PySem.F.entry_dict_get (PySem.F.args_dict_get_3 _ _ _) (meets_dict_get_default (intKind C.prog C.w) _ (isInt_int i t) (R.notSys hr) _) ⟨_, hd.mapOf, ?_⟩
                  have hg := hp.get i
                  cases e : getD l' i with
                  | none => rw [hg.1 e]; rw [e] at h; exact h ρ _ _ R (Sp.toks _) z
                  | some b => obtain ⟨v, hv, hV⟩ := hg.2 b e; rw [hv]; rw [e] at h; exact h ρ _ _ R (Sp.toks _) hV
    · cases hm
  · cases hm
theorem PairsR.isSome {mC : Addr} {h : Heap} {ρ : Rho} {l : List (Int × AV)} {kvs : List (Int × Value)} (r : PairsR mC h ρ l kvs) (x : Int) : (valueAt kvs x).isSome = (getD l x).isSome := by
  have hg := r.get x
  cases e : getD l x with
  | none => rw [hg.1 e]; rfl
  | some b => obtain ⟨v, hv, _⟩ := hg.2 b e; rw [hv]; rfl
def setdefM : List AV → M AV
  | [.ref n, .int k, d] => fun σ => match σ.hp[n]? with
    | some (.dict l) => if l.length ≤ lim then (match getD l k with
      | some v => some (v, σ)
      | none => some (d, { σ with hp := σ.hp.set n (.dict (putD l k d)) })) else none
    | _ => none
  | _ => fun _ => none
theorem dc_setdef : DC C k env (RV C) (fun vs => call (.builtin "dict.setdefault") vs) setdefM := by
  intro A σ l a σ' hA hm ρ s Q E vs R V h
  unfold setdefM at hm
  split at hm
  · rename_i n i dv
    split at hm
    · rename_i l' hl'
      split at hm
      · rename_i hlen
        cases V with
        | cons x V => cases V with
          | cons y V => cases V with
            | cons z V => cases V with
              | nil => cases x with
                | ref hr =>
                  cases y with
                  | int _ t =>
                    obtain ⟨a₁, d, hq, rfl, kvs, hd, hp⟩ := R.at hl'
                    rw [hr] at hq; cases hq
                    have hg := hp.get i
                    refine call_meetsIn PySem.F.slot_dict_setdefault hd.typeIs PySem.F.entry_dict_setdefault (PySem.F.args_dict_setdefault_3 _ _ _) (kt_meets_setdefault (intKind C.prog C.w) _ (isInt_int i t) (R.notSys hr) _) ⟨kvs, hd, by rw [← hp.length]; exact Nat.le_trans hlen lim_line, fun v hv => ?_, fun hv h' hd' hs => ?_⟩
                    · cases e : getD l' i with
                      | none => rw [hg.1 e] at hv; cases hv
                      | some b =>
                        rw [e] at hm; cases hm
                        obtain ⟨v', hv', hV⟩ := hg.2 _ e
                        rw [hv] at hv'; cases hv'
                        exact h ρ _ _ R (Sp.toks _) hV
                    · cases e : getD l' i with
                      | some b => obtain ⟨v', hv', hV⟩ := hg.2 _ e; rw [hv] at hv'; cases hv'
                      | none =>
                        rw [e] at hm; cases hm
                        have hfz := frz_sameBut hs ((R.objs n _ _ hl' hr).notFrozen _ (.inl rfl))
                        have z' := z.mono hfz (fun _ _ e => e) (ρ' := ρ)
                        obtain ⟨R', S'⟩ := R.turn (o' := .dict (putD l' i _)) hr hl' (by simp) hs ⟨rfl, _, hd', (hp.mono hfz fun _ _ e => e).put z'⟩ (s.toks + 1)
                        exact h ρ _ _ R' S' z'
      · cases hm
    · cases hm
  · cases hm
/-! methods of sets -/
def saddM : List AV → M AV
  | [.ref n, .int k] => fun σ => match σ.hp[n]? with
    | some (.set l) => if k ∈ eight then some (.none, { σ with hp := σ.hp.set n (.set (insE l k)) }) else none
    | _ => none
  | _ => fun _ => none
theorem dc_sadd : DC C k env (RV C) (fun vs => call (.builtin "set.add") vs) saddM := by
  intro A σ l a σ' hA hm ρ s Q E vs R V h
  unfold saddM at hm
  split at hm
  · rename_i n i
    split at hm
    · rename_i l' hl'
      split at hm
      · rename_i hlen
        cases hm
        cases V with
        | cons x V => cases V with
          | cons y V => cases V with
            | nil => cases x with
              | ref hr =>
                cases y with
                | int _ t =>
                  obtain ⟨a₁, d, hq, rfl, hS⟩ := R.at hl'
                  rw [hr] at hq; cases hq
                  refine call_sadd_small hS hlen fun h' hs hS' => ?_
                  obtain ⟨R', S'⟩ := R.turn (o' := .set (insE l' i)) hr hl' (by simp) hs ⟨rfl, hS'⟩ (s.toks + 1)
                  exact h ρ _ _ R' S' .none
      · cases hm
    · cases hm
  · cases hm
def scontM : List AV → M AV
  | [.ref n, .int k] => fun σ => match σ.hp[n]? with
    | some (.set l) => some (.bool (decide (k ∈ l)), σ)
    | _ => none
  | _ => fun _ => none
theorem dc_scont : DC C k env (RV C) (fun vs => call (.builtin "set.__contains__") vs) scontM := by
  intro A σ l a σ' hA hm ρ s Q E vs R V h
  unfold scontM at hm
  split at hm
  · rename_i n i
    split at hm
    · rename_i l' hl'
      cases hm
      cases V with
      | cons x V => cases V with
        | cons y V => cases V with
          | nil => cases x with
            | ref hr =>
              cases y with
              | int _ t =>
                obtain ⟨a₁, d, hq, rfl, hS⟩ := R.at hl'
                replace hS := hS.setOf (prog := C.prog)
                rw [hr] at hq; cases hq
                refine wpAny_call_entry PySem.F.slot_set_contains hS.typeIs entry_set_contains ?_ (PySem.F.args_set_contains_2 _ _)
                unfold Builtin.«frozenset.__contains__» Builtin.Frozenset.oneOther
                simp only [List.isEmpty_nil, bind_assoc]
                unfold Builtin.Frozenset.addrOf Builtin.Frozenset.withSetAsKey setContains
                refine wpAny_bind (wpAny_pure ?_)
                try dsimp only
                refine wpAny_bind (wpAny_pure ?_)
                try dsimp only
                refine wpAny_bind (wpAny_tryCatch ?_)
                refine wpAny_holding ?_
                refine wpAny_bind ((intKind C.prog C.w).pyHash (isInt_int i t) ?_)
                refine wpAny_bind (wpAny_setFind_of (s := { s with toks := s.toks + 1 }) (isInt_int i t) rfl hS fun r hr' => ?_)
                refine wpAny_pure ?_
                show wpAny _ _ (ret (Value.bool r.isSome)) _ _ _
                rw [hr']
                exact wpAny_pure ⟨_, rfl, h ρ _ _ R (Sp.toks _) (.bool _)⟩
    · cases hm
  · cases hm
/-! a method of a plain object, called -/
def isTy (T : String) : AO → Bool
  | .list _ => T == "list"
  | .dict _ => T == "dict"
  | .set _ => T == "set"
  | _ => false
def chkM (T : String) : AV → M Unit
  | .ref n => fun σ => match σ.hp[n]? with
    | some o => if isTy T o then some ((), σ) else none
    | _ => none
  | _ => fun _ => none
theorem ty_of {ρ : Rho} {σ σ' : St} {s : Shared} {T : String} {a : AV} {v : Value} {u : Unit} (R : Rep C env ρ σ s.heap) (V : VRel C.mC s.heap ρ a v) (h : chkM T a σ = some (u, σ')) : σ = σ' ∧ s.TypeIs v T ∧ ∀ a, v = .ref a → ∃ ob, s.heap.get? a = some ob ∧ ob.dict = none := by
  unfold chkM at h
  split at h
  · rename_i n
    split at h
    · rename_i o ho
      split at h
      · rename_i hT
        cases h
        cases V with
        | ref hr =>
          refine ⟨rfl, ?_⟩
          have x := R.objs n o _ ho hr
          cases o with
          | list l =>
            obtain rfl : T = "list" := by simpa [isTy] using hT
            obtain ⟨rfl, its, ⟨n, p⟩, v⟩ := x
            exact ⟨⟨_, p, rfl⟩, fun a e => by injection e with e; subst e; exact ⟨_, p, rfl⟩⟩
          | dict l =>
            obtain rfl : T = "dict" := by simpa [isTy] using hT
            obtain ⟨rfl, kvs, hd, q⟩ := x
            obtain ⟨o, es, ep, p, hx, r⟩ := id hd
            exact ⟨hd.typeIs, fun a e => by injection e with e; subst e; exact ⟨_, p, hx.2.1⟩⟩
          | set l =>
            obtain rfl : T = "set" := by simpa [isTy] using hT
            obtain ⟨rfl, hS⟩ := x
            replace hS := hS.setOf (prog := C.prog)
            exact ⟨hS.typeIs, hS.noDict⟩
          | _ => cases hT
      · cases h
    · cases h
  · cases h
theorem den_meth {o : PySem.Expr} {name : Str} {apos pos : Pos} {args : List PySem.Expr} {T id : String} {mo : M AV} {ms : M (List AV)} {g : List AV → M AV}
    (ho : DV C k env (eval o env) mo) (hs : DL C k env (spliced (backTo pos (starEach args env))) ms) (hg : DC C k env (RV C) (fun vs => call (.builtin id) vs) g)
    (pa : PlainAttrs T) (slot : Slot T name id) (hty : typeOf (.builtin id) = pure (.type "method_descriptor"))
    (hbase : attributeBase o name env (eval o env) = eval o env)
    (hfew : ((backTo pos (starEach args env)).all (fun x => !x.1) && (backToKw pos (keywordEach [] env)).all (fun x => x.1.isSome)
      && decide (args.length + ([] : List Keyword).length + (if ([] : List Keyword).isEmpty then 0 else 1) < 30)) = true)
    (hline : (apos.endLine == pos.line) = true) (hst : (backTo pos (starEach args env)).any (·.1) = false) :
    DV C k env (eval (.Call (.Attribute o name apos) args [] pos) env) (do let a ← mo; chkM T a; let l ← ms; g (a :: l)) := by
  intro A σ a σ' hA hm ρ s Q E R h
  obtain ⟨y, σ₁, hy, hm⟩ := bind_some hm
  obtain ⟨u, σ₂, hu, hm⟩ := bind_some hm
  refine wpAny_Call_method hbase hfew hline pa slot hty (ho A σ y σ₁ hA hy ρ s _ E R fun ρ₁ s₁ v₁ R₁ S₁ V₁ => ?_)
  obtain ⟨rfl, hT, hD⟩ := ty_of R₁ V₁ hu
  refine ⟨hT, hD, ?_⟩
  exact cw_plain (first := [y]) hs hg (.inl rfl) hst hA hm R₁ (.cons V₁ .nil) fun ρ' s' v R' S' V' => h ρ' s' v R' (S₁.trans S') V'
end
end Mine

open PySem PySem.W PyProof.Rows
set_option Elab.async false
set_option maxRecDepth 100000
set_option maxHeartbeats 1000000
set_option linter.unusedVariables false
namespace Mine
theorem slot_md_get : Slot "method_descriptor" "__get__" "method_descriptor.__get__" :=
  .of (owner := "method_descriptor") (n := "__get__") (by rw [typeLookup_type, builtinLookup_eq_fast]; kernel_rfl) (by decide +kernel) (by decide +kernel) (by decide +kernel)
    (by first | exact .inl (by decide +kernel) | exact .inr (by decide +kernel)) (by rw [isSubtype_type]; kernel_rfl)
theorem entry_md_get : entryFor table "method_descriptor.__get__" = some Builtin.«method_descriptor.__get__» := entryFor_of_tree (by kernel_rfl)
theorem args_md_get (a b c : Value) : argsOk "method_descriptor.__get__" ⟨[a, b, c], []⟩ := by unfold argsOk; kernel_rfl
theorem noset_md : typeLookup (.type "method_descriptor") "__set__" = pure none := by rw [typeLookup_type, builtinLookup_eq_fast]; kernel_rfl
theorem nodel_md : typeLookup (.type "method_descriptor") "__delete__" = pure none := by rw [typeLookup_type, builtinLookup_eq_fast]; kernel_rfl
section
variable {prog : Program} {w : World} {A : Around} {E : Value → Shared → Prop} {h : Heap} {g : Array GenState} {d : Drawn} {t : Nat} {os : OsState} {a : Addr} {o : Obj}
theorem md_get {T id : String} {R : Result → Shared → Prop} (hx : h.get? a = some o) (hc : o.cls = .type T)
    (hq : R (.ok (.ret (.ref h.objs.size))) ⟨h.push { cls := .type "builtin_function_or_method", data := .fields #[.builtin id, .ref a] }, g, d, t, os⟩)
    (htc : Manifest.toldItsClass.contains id = false) (hown : (".".intercalate (id.cutAt '.').dropLast) = T) (hty : typeOf (.builtin id) = pure (.type "method_descriptor")) (hsub : isSubtype (.type T) (.type T) = pure true) :
    codeAny (model prog w) A (.call (.builtin "method_descriptor.__get__") ⟨[.builtin id, .ref a, .type T], []⟩) R ⟨h, g, d, t, os⟩ := by
  have hT : (⟨h, g, d, t, os⟩ : Shared).TypeIs (.ref a) T := ⟨_, hx, hc⟩
  have hT5 : (⟨h, g, d, t, os⟩ : Shared).TypeIs (.builtin id) "method_descriptor" := hty
  refine codeAny_call_builtin slot_md_get.plain entry_md_get (slot_md_get.check _ _ _ _ _ _ _ _ hT5 (args_md_get _ _ _) ?_)
  repeat (any_goals (first | assumption | wp_step))
  rw [if_neg (by rw [htc]; exact Bool.false_ne_true)]
  repeat (any_goals (first | assumption | wp_step))
  rw [hown, hsub]
  repeat (any_goals (first | assumption | wp_step))
theorem md_entry {T id : String} {nm : Str} {tk : Tok} {Q : Fin → Shared → Prop} (hx : h.get? a = some o) (hc : o.cls = .type T) (hdn : o.dict = none) (hnd : ∀ c, o.data ≠ .cls c)
    (hq : Q (.done (.ret (.ref h.objs.size))) ⟨h.push { cls := .type "builtin_function_or_method", data := .fields #[.builtin id, .ref a] }, g, d, t, os⟩)
    (htc : Manifest.toldItsClass.contains id = false) (hown : (".".intercalate (id.cutAt '.').dropLast) = T) (hty : typeOf (.builtin id) = pure (.type "method_descriptor")) (hsub : isSubtype (.type T) (.type T) = pure true)
    (slot : Slot T nm id) (hnm : (["__module__", "__name__", "__qualname__", "__doc__", "__annotations__"] : List Str).contains nm = false) :
    wpAny (model prog w) A (Builtin.«object.__getattribute__» ⟨[.ref a, .str nm tk], []⟩) Q E ⟨h, g, d, t, os⟩ := by
  have hT : (⟨h, g, d, t, os⟩ : Shared).TypeIs (.ref a) T := ⟨_, hx, hc⟩
  have f4 := slot.lookup
  have f6 := slot_md_get.lookup
  have f7 := noset_md
  have f8 := nodel_md
  repeat (any_goals (first | assumption | wp_step))
  split
  · rename_i c hcd; exact absurd hcd (hnd c)
  unfold instanceDict
  repeat (any_goals (first | assumption | wp_step))
  simp only [hc, hdn, Bool.not_false, Bool.true_or, if_true]
  repeat (any_goals (first | assumption | wp_step))
  rw [if_neg (by rw [hnm]; exact Bool.false_ne_true)]
  repeat (any_goals (first | assumption | wp_step))
  refine md_get hx hc ?_ htc hown hty hsub
  repeat (any_goals (first | assumption | wp_step))
theorem md_by {T id gid : String} {nm : Str} {tk : Tok} {Q : Value → Shared → Prop} (hx : h.get? a = some o) (hc : o.cls = .type T) (hdn : o.dict = none) (hnd : ∀ c, o.data ≠ .cls c)
    (hq : Q (.ref h.objs.size) ⟨h.push { cls := .type "builtin_function_or_method", data := .fields #[.builtin id, .ref a] }, g, d, t, os⟩)
    (htc : Manifest.toldItsClass.contains id = false) (hown : (".".intercalate (id.cutAt '.').dropLast) = T) (hty : typeOf (.builtin id) = pure (.type "method_descriptor")) (hsub : isSubtype (.type T) (.type T) = pure true)
    (slot : Slot T nm id) (hnm : (["__module__", "__name__", "__qualname__", "__doc__", "__annotations__"] : List Str).contains nm = false)
    (slotga : Slot T "__getattribute__" gid) (entryga : entryFor table gid = some Builtin.«object.__getattribute__») (argsga : ∀ a b, argsOk gid ⟨[a, b], []⟩) :
    wpAny (model prog w) A (getAttrBy (.ref a) (.str nm tk) true true) Q E ⟨h, g, d, t, os⟩ := by
  have hT : (⟨h, g, d, t, os⟩ : Shared).TypeIs (.ref a) T := ⟨_, hx, hc⟩
  have f2 := slotga.lookup
  have f3 := slotga.bind (.ref a)
  repeat (any_goals (first | assumption | wp_step))
  refine codeAny_call_builtin slotga.plain entryga (slotga.check _ _ _ _ _ _ _ _ hT (argsga _ _) (md_entry (id := id) hx hc hdn hnd ?_ htc hown hty hsub slot hnm))
  repeat (any_goals (first | assumption | wp_step))
theorem md_attr {T id gid : String} {nm : Str} {Q : Value → Shared → Prop} (hx : h.get? a = some o) (hc : o.cls = .type T) (hdn : o.dict = none) (hnd : ∀ c, o.data ≠ .cls c)
    (hq : Q (.ref h.objs.size) ⟨h.push { cls := .type "builtin_function_or_method", data := .fields #[.builtin id, .ref a] }, g, d, t + 1, os⟩)
    (htc : Manifest.toldItsClass.contains id = false) (hown : (".".intercalate (id.cutAt '.').dropLast) = T) (hty : typeOf (.builtin id) = pure (.type "method_descriptor")) (hsub : isSubtype (.type T) (.type T) = pure true)
    (slot : Slot T nm id) (hnm : (["__module__", "__name__", "__qualname__", "__doc__", "__annotations__"] : List Str).contains nm = false)
    (slotga : Slot T "__getattribute__" gid) (entryga : entryFor table gid = some Builtin.«object.__getattribute__») (argsga : ∀ a b, argsOk gid ⟨[a, b], []⟩) :
    wpAny (model prog w) A (getAttr (.ref a) nm true) Q E ⟨h, g, d, t, os⟩ := by
  unfold getAttr
  refine wpAny_bind ?_
  repeat (any_goals (first | assumption | with_reducible refine md_by hx hc hdn hnd ?_ htc hown hty hsub slot hnm slotga entryga argsga | wp_step))
theorem attr_dict_get {Q : Value → Shared → Prop} (hx : h.get? a = some o) (hc : o.cls = .type "dict") (hdn : o.dict = none) (hnd : ∀ c, o.data ≠ .cls c)
    (hq : Q (.ref h.objs.size) ⟨h.push { cls := .type "builtin_function_or_method", data := .fields #[.builtin "dict.get", .ref a] }, g, d, t + 1, os⟩) : wpAny (model prog w) A (getAttr (.ref a) "get" true) Q E ⟨h, g, d, t, os⟩ :=
  md_attr hx hc hdn hnd hq (by decide +kernel) (by
    have e0 : "dict.get".cutAt '.' = ["dict", "get"] := by first | rfl | decide +kernel
    rw [e0]; decide +kernel) F.type_dict_get (by rw [isSubtype_type]; kernel_rfl) F.slot_dict_get (by decide +kernel) F.slot_dict_getattribute F.entry_dict_ga F.args_dict_getattribute_2
theorem attr_set_contains {Q : Value → Shared → Prop} (hx : h.get? a = some o) (hc : o.cls = .type "set") (hdn : o.dict = none) (hnd : ∀ c, o.data ≠ .cls c)
    (hq : Q (.ref h.objs.size) ⟨h.push { cls := .type "builtin_function_or_method", data := .fields #[.builtin "set.__contains__", .ref a] }, g, d, t + 1, os⟩) : wpAny (model prog w) A (getAttr (.ref a) "__contains__" true) Q E ⟨h, g, d, t, os⟩ :=
  md_attr hx hc hdn hnd hq (by decide +kernel) (by
    have e0 : "set.__contains__".cutAt '.' = ["set", "__contains__"] := by first | rfl | decide +kernel
    rw [e0]; decide +kernel) F.type_set_contains (by rw [isSubtype_type]; kernel_rfl) F.slot_set_contains (by decide +kernel) F.slot_set_getattribute F.entry_set_ga F.args_set_getattribute_2
end
end Mine

open PySem PySem.W PyProof.Rows
set_option Elab.async false
set_option maxRecDepth 100000
set_option maxHeartbeats 1000000
set_option linter.unusedVariables false
namespace Mine
section
variable {prog : Program} {w : World} {A : Around} {E : Value → Shared → Prop} {s : Shared}
theorem codeAny_call_bound {a : Addr} {id : String} {self : Value} {pos : List Value} {B : Builtin} {R : Result → Shared → Prop} (ho : s.heap.get? a = some { cls := .type "builtin_function_or_method", data := .fields #[.builtin id, self] })
    (hp : plainId id = true) (hb : entryFor table id = some B) (hchk : ∀ {Q : Unit → Shared → Prop} {E : Value → Shared → Prop}, Q () s → wpAny (model prog w) A.in1 (checkBoundCall id ⟨self :: pos, []⟩) Q E s)
    (h : wpAny (model prog w) A.in1 (B ⟨self :: pos, []⟩) (fun fin s' => match fin with | .done f => R (.ok f) s' | .again c' => c'.quiet = true ∧ codeAny (model prog w) A c' R s') (fun e s' => R (.error e) s') s) :
    codeAny (model prog w) A (.call (.ref a) ⟨pos, []⟩) R s := by
  refine codeAny_of_tree ?_
  show wpAny _ A.in1 (callAny (.ref a) ⟨pos, []⟩) _ _ s
  unfold callAny
  refine wpAny_bind (wpAny_load ho ?_)
  refine wpAny_bind (hchk ?_)
  refine wpAny_pure ?_
  refine ⟨plainId_quiet hp _, codeAny_builtin hb ?_⟩
  rw [Around.under_plainId hp]
  exact h
def sigGet : Manifest.Signature := ⟨.positional, "dict.get", "get", .self, [⟨"key", .posOnly, true⟩, ⟨"default", .posOnly, false⟩]⟩
def sigCon : Manifest.Signature := ⟨.oneArg, "set.__contains__", "__contains__", .self, [⟨"object", .posOnly, true⟩]⟩
theorem sig_dict_get : Manifest.signature? "dict.get" = some sigGet := by kernel_rfl
theorem kind_dict_get : builtinKind "dict.get" = some .method := by decide +kernel
theorem sig_set_contains : Manifest.signature? "set.__contains__" = some sigCon := by kernel_rfl
theorem kind_set_contains : builtinKind "set.__contains__" = some .method := by decide +kernel
theorem chk_dict_get2 {a : Addr} {o : Obj} {x : Value} {Q : Unit → Shared → Prop} (hx : s.heap.get? a = some o) (hc : o.cls = .type "dict") (hnd : ∀ c, o.data ≠ .cls c) (h : Q () s) : wpAny (model prog w) A (checkBoundCall "dict.get" ⟨[.ref a, x], []⟩) Q E s := by
  obtain ⟨hp, g, d, tk, os⟩ := s
  have hT : (⟨hp, g, d, tk, os⟩ : Shared).TypeIs (.ref a) "dict" := ⟨_, hx, hc⟩
  unfold checkBoundCall
  rw [sig_dict_get, kind_dict_get]
  have hsub : isSubtype (.type "dict") (.type "module") = pure false := by rw [isSubtype_type]; kernel_rfl
  repeat (any_goals (first | assumption | wp_step))
theorem chk_dict_get3 {a : Addr} {o : Obj} {x y : Value} {Q : Unit → Shared → Prop} (hx : s.heap.get? a = some o) (hc : o.cls = .type "dict") (hnd : ∀ c, o.data ≠ .cls c) (h : Q () s) : wpAny (model prog w) A (checkBoundCall "dict.get" ⟨[.ref a, x, y], []⟩) Q E s := by
  obtain ⟨hp, g, d, tk, os⟩ := s
  have hT : (⟨hp, g, d, tk, os⟩ : Shared).TypeIs (.ref a) "dict" := ⟨_, hx, hc⟩
  unfold checkBoundCall
  rw [sig_dict_get, kind_dict_get]
  have hsub : isSubtype (.type "dict") (.type "module") = pure false := by rw [isSubtype_type]; kernel_rfl
  repeat (any_goals (first | assumption | wp_step))
theorem chk_set_contains {a : Addr} {o : Obj} {x : Value} {Q : Unit → Shared → Prop} (hx : s.heap.get? a = some o) (hc : o.cls = .type "set") (hnd : ∀ c, o.data ≠ .cls c) (h : Q () s) : wpAny (model prog w) A (checkBoundCall "set.__contains__" ⟨[.ref a, x], []⟩) Q E s := by
  obtain ⟨hp, g, d, tk, os⟩ := s
  have hT : (⟨hp, g, d, tk, os⟩ : Shared).TypeIs (.ref a) "set" := ⟨_, hx, hc⟩
  unfold checkBoundCall
  rw [sig_set_contains, kind_set_contains]
  have hsub : isSubtype (.type "set") (.type "module") = pure false := by rw [isSubtype_type]; kernel_rfl
  repeat (any_goals (first | assumption | wp_step))
end
end Mine

open PySem PySem.W PyProof.Rows
set_option Elab.async false
set_option maxRecDepth 100000
set_option maxHeartbeats 1000000
set_option linter.unusedVariables false
namespace Mine
theorem lk_bm_bool : typeLookup (.type "builtin_function_or_method") "__bool__" = pure none := by rw [typeLookup_type, builtinLookup_eq_fast]; kernel_rfl
theorem lk_bm_len : typeLookup (.type "builtin_function_or_method") "__len__" = pure none := by rw [typeLookup_type, builtinLookup_eq_fast]; kernel_rfl
theorem lk_fn_bool : typeLookup (.type "function") "__bool__" = pure none := by rw [typeLookup_type, builtinLookup_eq_fast]; kernel_rfl
theorem lk_fn_len : typeLookup (.type "function") "__len__" = pure none := by rw [typeLookup_type, builtinLookup_eq_fast]; kernel_rfl
section
variable {prog : Program} {w : World} {A : Around} {E : Value → Shared → Prop} {s : Shared}
theorem truthy_plain {a : Addr} {T : String} {Q : Bool → Shared → Prop} (hT : s.TypeIs (.ref a) T) (h1 : typeLookup (.type T) "__bool__" = pure none) (h2 : typeLookup (.type T) "__len__" = pure none) (h : Q true s) : wpAny (model prog w) A (truthy (.ref a)) Q E s := by
  obtain ⟨hp, g, d, tk, os⟩ := s
  repeat (any_goals (first | assumption | wp_step))
end
section
variable {C : Cx} {k : Nat} {env : Env}
theorem fn_type {f : Addr} (h : isFn C.K (.ref f) = true) {hp : Heap} (X : C.K.In hp) : ∃ o, hp.get? f = some o ∧ o.cls = .type "function" := by
  replace h : ((C.K.lookup f).map (·.cls) == some (.type "function")) = true := h
  cases e : C.K.lookup f with
  | none => rw [e] at h; cases h
  | some o =>
    rw [e] at h
    exact ⟨o, X _ _ e, by simpa using h⟩
def isFnRef (K : Frag) : Value → Bool
  | .ref f => isFn K (.ref f)
  | _ => false
def truthM (C : Cx) : AV → M Bool
  | .none => pure false
  | .bool b => pure b
  | .int i => pure (i != 0)
  | .ref n => fun σ => match σ.hp[n]? with
    | some (.list l) => if l.length ≤ lim then some (!l.isEmpty, σ) else none
    | _ => none
  | .bm _ _ => pure true
  | .st v => fun σ => if isFnRef C.K v then some (true, σ) else none
  | _ => fun _ => none
theorem do_truth : DO1 C k env RB truthy (truthM C) := by
  intro A σ a r σ' hA hm ρ s Q E va R V h
  unfold truthM at hm
  split at hm
  · obtain ⟨rfl, rfl⟩ := pure_some hm
    cases V
    exact wpAny_pure (h ρ _ _ R (Sp.refl _ _ _ _) rfl)
  · obtain ⟨rfl, rfl⟩ := pure_some hm
    cases V
    exact wpAny_truthy_bool (h ρ _ _ R (Sp.refl _ _ _ _) rfl)
  · obtain ⟨rfl, rfl⟩ := pure_some hm
    cases V
    exact truthy_int (h ρ _ _ R (Sp.refl _ _ _ _) rfl)
  · split at hm
    · rename_i l hl
      split at hm
      · rename_i hlen
        cases hm
        cases V with
        | ref hr =>
          obtain ⟨a₁, d, hq, rfl, items, ⟨ep, hp⟩, W⟩ := R.at hl
          rw [hr] at hq; cases hq
          have hwl := W.length
          refine wpAny_truthy_list (items := items.toArray) ⟨_, hp, rfl, _, rfl⟩ ?_ ?_
          · rw [List.size_toArray, ← hwl]; unfold lim at hlen; omega
          · refine h ρ _ _ R (Sp.toks _) ?_
            cases l <;> cases items <;> simp at hwl ⊢
      · cases hm
    · cases hm
  · obtain ⟨rfl, rfl⟩ := pure_some hm
    cases V with
    | bm hr ho => exact truthy_plain ⟨_, ho, rfl⟩ lk_bm_bool lk_bm_len (h ρ _ _ R (Sp.refl _ _ _ _) rfl)
  · split at hm
    · rename_i v hv
      cases hm
      cases V
      cases va with
      | ref f =>
        obtain ⟨o, ho, hc⟩ := fn_type hv (fun a o e => R.base _ _ (C.X a o e))
        exact truthy_plain ⟨_, ho, hc⟩ lk_fn_bool lk_fn_len (h ρ _ _ R (Sp.refl _ _ _ _) rfl)
      | _ => cases hv
    · cases hm
  · cases hm

/-! a value called that a name of the frame holds -/
def appM (F : Value → Option (List AV → M AV)) : AV → List AV → M AV
  | .bm n id, l => if id = "dict.get" then dgetM (.ref n :: l) else if id = "set.__contains__" then scontM (.ref n :: l) else fun _ => none
  | .st v, l => (match F v with
    | some g => g l
    | none => fun _ => none)
  | _, _ => fun _ => none
theorem plain_dict_get : plainId "dict.get" = true := PySem.F.slot_dict_get.plain
theorem plain_set_contains : plainId "set.__contains__" = true := PySem.F.slot_set_contains.plain
theorem dict_obj {h : Heap} {a : Addr} {kvs : List (Int × Value)} (hd : h.DictOf (intKind C.prog C.w) a kvs) : ∃ o, h.get? a = some o ∧ o.cls = .type "dict" ∧ o.dict = none ∧ ∀ c, o.data ≠ .cls c := by
  obtain ⟨o, es, ep, p, hx, hdat, _⟩ := hd
  exact ⟨o, p, hx.1, hx.2.1, fun c e => by rw [hdat] at e; cases e⟩
theorem set_obj {h : Heap} {a : Addr} {S : Int → Bool} {n : Nat} (hd : h.SetOf (intKind C.prog C.w) a S n) : ∃ o, h.get? a = some o ∧ o.cls = .type "set" ∧ o.dict = none ∧ ∀ c, o.data ≠ .cls c := by
  obtain ⟨o, es, ep, t, p, hx, hdat, _⟩ := hd
  exact ⟨o, p, hx.1, hx.2.1, fun c e => by rw [hdat] at e; cases e⟩
theorem call_bm {n : Nat} {id : String} {A : Around} {σ : St} {l : List AV} {a : AV} {σ' : St} {F : Value → Option (List AV → M AV)} (hm : appM F (.bm n id) l σ = some (a, σ')) {ρ : Rho} {s : Shared} {Q : Value → Shared → Prop} {E : Value → Shared → Prop} {vs : List Value} {r : Nat}
    (R : Rep C env ρ σ s.heap) (V : VRels C.mC s.heap ρ l vs) {a₁ d₁ : Nat} (hr : ρ[n]? = some (a₁, d₁)) (ho : s.heap.get? r = some { cls := .type "builtin_function_or_method", data := .fields #[.builtin id, .ref a₁] })
    (h : ∀ ρ' s' v, Rep C env ρ' σ' s'.heap → Sp env.locals ρ σ s ρ' σ' s' → VRel C.mC s'.heap ρ' a v → Q v s') : wpAny (model C.prog C.w) A (call (.ref r) vs) Q E s := by
  unfold appM at hm
  simp only at hm
  split at hm
  · rename_i e
    subst e
    generalize hL : AV.ref n :: l = L at hm
    unfold dgetM at hm
    split at hm
    · rename_i n' i
      obtain ⟨rfl, rfl⟩ : n = n' ∧ l = [.int i] := by simpa using hL
      split at hm
      · rename_i l' hl'
        cases hm
        cases V with
        | cons y V => cases V with
          | nil => cases y with
            | int _ t =>
              obtain ⟨a₂, d₂, hq, rfl, kvs, hd, hp⟩ := R.at hl'
              rw [hr] at hq; cases hq
              obtain ⟨o, hx, hc, hdn, hnd⟩ := dict_obj hd
              refine wpAny_call (codeAny_call_bound ho plain_dict_get PySem.F.entry_dict_get (fun hQ => chk_dict_get2 hx hc hnd hQ) (meets_dict_get (intKind C.prog C.w) _ (isInt_int i t) (R.notSys hr) A (wants Q E) s ⟨_, hd.mapOf, ?_⟩))
              have hg := hp.get i
              cases e : getD l' i with
              | none => rw [hg.1 e]; rw [e] at h; exact h ρ _ _ R (Sp.toks _) .none
              | some b => obtain ⟨v, hv, hV⟩ := hg.2 b e; rw [hv]; rw [e] at h; exact h ρ _ _ R (Sp.toks _) hV
      · cases hm
    · rename_i n' i dv
      obtain ⟨rfl, rfl⟩ : n = n' ∧ l = [.int i, dv] := by simpa using hL
      split at hm
      · rename_i l' hl'
        cases hm
        cases V with
        | cons y V => cases V with
          | cons z V => cases V with
            | nil => cases y with
              | int _ t =>
                obtain ⟨a₂, d₂, hq, rfl, kvs, hd, hp⟩ := R.at hl'
                rw [hr] at hq; cases hq
                obtain ⟨o, hx, hc, hdn, hnd⟩ := dict_obj hd
                refine wpAny_call (codeAny_call_bound ho plain_dict_get PySem.F.entry_dict_get (fun hQ => chk_dict_get3 hx hc hnd hQ) (meets_dict_get_default (intKind C.prog C.w) _ (isInt_int i t) (R.notSys hr) _ A (wants Q E) s ⟨_, hd.mapOf, ?_⟩))
                have hg := hp.get i
                cases e : getD l' i with
                | none => rw [hg.1 e]; rw [e] at h; exact h ρ _ _ R (Sp.toks _) z
                | some b => obtain ⟨v, hv, hV⟩ := hg.2 b e; rw [hv]; rw [e] at h; exact h ρ _ _ R (Sp.toks _) hV
      · cases hm
    · cases hm
  · split at hm
    · rename_i _ e
      subst e
      generalize hL : AV.ref n :: l = L at hm
      unfold scontM at hm
      split at hm
      · rename_i n' i
        obtain ⟨rfl, rfl⟩ : n = n' ∧ l = [.int i] := by simpa using hL
        split at hm
        · rename_i l' hl'
          cases hm
          cases V with
          | cons y V => cases V with
            | nil => cases y with
              | int _ t =>
                obtain ⟨a₂, d₂, hq, rfl, hS⟩ := R.at hl'
                replace hS := hS.setOf (prog := C.prog)
                rw [hr] at hq; cases hq
                obtain ⟨o, hx, hc, hdn, hnd⟩ := set_obj hS
                refine wpAny_call (codeAny_call_bound ho plain_set_contains entry_set_contains (fun hQ => chk_set_contains hx hc hnd hQ) ?_)
                unfold Builtin.«frozenset.__contains__» Builtin.Frozenset.oneOther
                simp only [List.isEmpty_nil, bind_assoc]
                unfold Builtin.Frozenset.addrOf Builtin.Frozenset.withSetAsKey setContains
                refine wpAny_bind (wpAny_pure ?_)
                try dsimp only
                refine wpAny_bind (wpAny_pure ?_)
                try dsimp only
                refine wpAny_bind (wpAny_tryCatch ?_)
                refine wpAny_holding ?_
                refine wpAny_bind ((intKind C.prog C.w).pyHash (isInt_int i t) ?_)
                refine wpAny_bind (wpAny_setFind_of (s := { s with toks := s.toks + 1 }) (isInt_int i t) rfl hS fun r hr' => ?_)
                refine wpAny_pure ?_
                show wpAny _ _ (ret (Value.bool r.isSome)) _ _ _
                rw [hr']
                exact wpAny_pure (h ρ _ _ R (Sp.toks _) (.bool _))
        · cases hm
      · cases hm
    · cases hm
theorem keep_bm {M : Model} {h : Heap} {r : Addr} {fs : Array Value} (ho : h.get? r = some { cls := .type "builtin_function_or_method", data := .fields fs }) : Looks M h (keeperOf (.ref r)) .machine := by
  intro A Q E s hk hq
  unfold keeperOf
  refine wpAny_bind (wpAny_load (hk _ _ ho) ?_)
  exact wpAny_pure hq
theorem den_callv {x : Str} {np pos : Pos} {args : List PySem.Expr} {mf : M AV} {ms : M (List AV)} {F : Value → Option (List AV → M AV)} (hf : DV C k env (eval (.Name x np) env) mf) (hs : DL C k env (spliced (backTo pos (starEach args env))) ms)
    (hF : ∀ v g, F v = some g → DC C k env (RV C) (fun vs => call v vs) g ∧ keepIn C.K v = true) (hst : (backTo pos (starEach args env)).any (·.1) = false) :
    DV C k env (eval (.Call (.Name x np) args [] pos) env) (do let f ← mf; let l ← ms; appM F f l) := by
  intro A σ a σ' hA hm ρ s Q E R h
  obtain ⟨f, σ₁, h₁, hm⟩ := bind_some hm
  refine wpAny_Call_ofName (hf A σ f σ₁ hA h₁ ρ s _ E R fun ρ₁ s₁ v₁ R₁ S₁ V₁ => ?_)
  cases V₁ with
  | st v =>
    obtain ⟨l, σ₂, h₂, hm'⟩ := bind_some hm
    replace hm' : (match F v₁ with
      | some g => g l
      | none => fun _ => none) σ₂ = some (a, σ') := hm'
    cases hg : F v₁ with
    | none => rw [hg] at hm'; cases hm'
    | some g =>
      rw [hg] at hm'
      obtain ⟨hgd, hkp⟩ := hF _ _ hg
      refine cw_plain (first := []) (g := g) hs hgd (.inr hkp) hst hA (σ := σ₁) (a := a) (σ' := σ') ?_ R₁ .nil fun ρ' s' v R' S' V' => h ρ' s' v R' (S₁.trans S') V'
      show (M.bind ms fun l => g ([] ++ l)) σ₁ = _
      unfold M.bind
      rw [h₂]; exact hm'
  | @bm n₀ id₀ a₀ d₀ r₀ hr ho =>
    obtain ⟨l, σ₂, h₂, hm'⟩ := bind_some hm
    refine callWith_of (P := fun h => h.get? r₀ = some { cls := .type "builtin_function_or_method", data := .fields #[.builtin id₀, .ref a₀] }) (by rw [hst]; rfl) (fun h hP => ⟨.machine, .inr (.inl rfl), keep_bm hP⟩) (evalArgs_any hst ?_)
    refine hs A σ₁ l σ₂ hA h₂ ρ₁ s₁ _ E R₁ fun ρ₂ s₂ vs R₂ S₂ V₂ => ⟨S₂.frz _ _ ho (by simp [Frozen]), ?_⟩
    exact call_bm hm' R₂ V₂ (S₂.ext _ _ hr) (S₂.frz _ _ ho (by simp [Frozen])) fun ρ' s' v R' S' V' => h ρ' s' v R' ((S₁.trans S₂).trans S') V'
  | _ =>
    obtain ⟨l, σ₂, h₂, hm'⟩ := bind_some hm
    cases hm'
/-! a built-in object's method taken as a value -/
def bmM (T id : String) : AV → M AV
  | .ref n => fun σ => match σ.hp[n]? with
    | some o => if isTy T o then some (.bm n id, σ) else none
    | _ => none
  | _ => fun _ => none
theorem Sp.push' {L : Addr} {ρ : Rho} {σ : St} {s : Shared} (o : Obj) (t : Nat) : Sp L ρ σ s ρ σ { s with heap := s.heap.push o, toks := t } := Sp.push o t
theorem den_bm_get {value : PySem.Expr} {pos : Pos} {m : M AV} (he : DV C k env (eval value env) m) (hb : attributeBase value "get" env (eval value env) = eval value env) :
    DV C k env (eval (.Attribute value "get" pos) env) (do let a ← m; bmM "dict" "dict.get" a) := by
  intro A σ a σ' hA hm ρ s Q E R h
  obtain ⟨y, σ₁, hy, hm⟩ := bind_some hm
  show wpAny _ _ (do
    let o ← attributeBase value "get" env (eval value env)
    standAt pos.atName
    let r ← holding [o] (getAttr o "get" true)
    letTemporaryGo value o r
    pure r) _ _ _
  rw [hb]
  refine wpAny_bind (he A σ y σ₁ hA hy ρ s _ E R fun ρ₁ s₁ v₁ R₁ S₁ V₁ => wpAny_bind (wpAny_standAt (wpAny_bind (wpAny_holding ?_))))
  cases y with
  | ref n =>
    replace hm : (match σ₁.hp[n]? with
      | some o => if isTy "dict" o then some (AV.bm n "dict.get", σ₁) else none
      | _ => none) = some (a, σ') := hm
    split at hm
    · rename_i o ho
      split at hm
      · rename_i hT
        cases hm
        cases V₁ with
        | @ref _ a₂ d₂ hr =>
          have x := R₁.objs n o _ ho hr
          cases o with
          | dict l =>
            obtain ⟨rfl, kvs, hd, hp⟩ := x
            obtain ⟨ob, hx, hc, hdn, hnd⟩ := dict_obj hd
            obtain ⟨hp₁, g₁, d₁, t₁, os₁⟩ := s₁
            refine attr_dict_get hx hc hdn hnd (wpAny_bind (wpAny_letTemporaryGo (wpAny_pure (h ρ₁ _ _ (R₁.push _) (S₁.trans (Sp.push' (s := ⟨hp₁, g₁, d₁, t₁, os₁⟩) _ _)) (.bm hr (Heap.get?_push_size _ rfl))))))
          | _ => cases hT
      · cases hm
    · cases hm
  | _ => cases hm
theorem den_bm_contains {value : PySem.Expr} {pos : Pos} {m : M AV} (he : DV C k env (eval value env) m) (hb : attributeBase value "__contains__" env (eval value env) = eval value env) :
    DV C k env (eval (.Attribute value "__contains__" pos) env) (do let a ← m; bmM "set" "set.__contains__" a) := by
  intro A σ a σ' hA hm ρ s Q E R h
  obtain ⟨y, σ₁, hy, hm⟩ := bind_some hm
  show wpAny _ _ (do
    let o ← attributeBase value "__contains__" env (eval value env)
    standAt pos.atName
    let r ← holding [o] (getAttr o "__contains__" true)
    letTemporaryGo value o r
    pure r) _ _ _
  rw [hb]
  refine wpAny_bind (he A σ y σ₁ hA hy ρ s _ E R fun ρ₁ s₁ v₁ R₁ S₁ V₁ => wpAny_bind (wpAny_standAt (wpAny_bind (wpAny_holding ?_))))
  cases y with
  | ref n =>
    replace hm : (match σ₁.hp[n]? with
      | some o => if isTy "set" o then some (AV.bm n "set.__contains__", σ₁) else none
      | _ => none) = some (a, σ') := hm
    split at hm
    · rename_i o ho
      split at hm
      · rename_i hT
        cases hm
        cases V₁ with
        | @ref _ a₂ d₂ hr =>
          have x := R₁.objs n o _ ho hr
          cases o with
          | set l =>
            obtain ⟨rfl, hS⟩ := x
            replace hS := hS.setOf (prog := C.prog)
            obtain ⟨ob, hx, hc, hdn, hnd⟩ := set_obj hS
            obtain ⟨hp₁, g₁, d₁, t₁, os₁⟩ := s₁
            refine attr_set_contains hx hc hdn hnd (wpAny_bind (wpAny_letTemporaryGo (wpAny_pure (h ρ₁ _ _ (R₁.push _) (S₁.trans (Sp.push' (s := ⟨hp₁, g₁, d₁, t₁, os₁⟩) _ _)) (.bm hr (Heap.get?_push_size _ rfl))))))
          | _ => cases hT
      · cases hm
    · cases hm
  | _ => cases hm
end
end Mine

open PySem PySem.W PyProof.Rows
set_option Elab.async false
set_option maxRecDepth 100000
set_option maxHeartbeats 1000000
set_option linter.unusedVariables false
namespace Mine
section
variable {C : Cx} {k : Nat} {env : Env}
/-! methods of the matcher -/
def instM : AV → M Unit
  | .ref n => fun σ => match σ.hp[n]? with
    | some (.inst _) => some ((), σ)
    | _ => none
  | _ => fun _ => none
theorem den_minst {o : PySem.Expr} {name : Str} {apos pos : Pos} {args : List PySem.Expr} {f : Addr} {mo : M AV} {ms : M (List AV)} {g : List AV → M AV}
    (ho : DV C k env (eval o env) mo) (hs : DL C k env (spliced (backTo pos (starEach args env))) ms) (hg : DC C k env (RV C) (fun vs => call (.ref f) vs) g)
    (hp : plainGet C.K C.sC name = true) (hf : findIn C.K (.ref C.sC) name = some (some (.ref f))) (ht : isFn C.K (.ref f) = true) (hk : keepIn C.K (.ref f) = true) (hna : attrNames.contains name = false)
    (hst : (backTo pos (starEach args env)).any (·.1) = false)
    (pl : Sem Bool) (he : eval (.Call (.Attribute o name apos) args [] pos) env = (do
      let ov ← eval o env
      standAt apos.atName
      let (f, first) ← holding [ov] (getMethod ov name pl)
      callWith pos f first (backTo pos (starEach args env)) (backToKw pos (keywordEach [] env)))) :
    DV C k env (eval (.Call (.Attribute o name apos) args [] pos) env) (do let a ← mo; instM a; let l ← ms; g (a :: l)) := by
  intro A σ a σ' hA hm ρ s Q E R h
  obtain ⟨y, σ₁, hy, hm⟩ := bind_some hm
  obtain ⟨u, σ₂, hu, hm⟩ := bind_some hm
  refine methodCall_KW (ho A σ y σ₁ hA hy ρ s _ E R fun ρ₁ s₁ v₁ R₁ S₁ V₁ => ?_) he
  cases y with
  | ref n =>
    replace hu : (match σ₁.hp[n]? with
      | some (.inst _) => some ((), σ₁)
      | _ => none) = some (u, σ₂) := hu
    split at hu
    · rename_i l hl
      cases hu
      cases V₁ with
      | @ref _ a₁ d₁ hr =>
        obtain ⟨a₂, d₂, hq, hne, hp₁, es, ep, hd, ⟨hsk, hz⟩, hat⟩ := R₁.at hl
        rw [hr] at hq; cases hq
        obtain ⟨mm, hns, hsl⟩ := R₁.ns
        refine method_inst (R₁.fr hns) C.X (inst_at hp₁ hd) hp hf ht (getL_none hsk hna) ?_
        exact cw_plain (first := [.ref n]) hs hg (.inr hk) hst hA hm R₁ (.cons (.ref hr) .nil) fun ρ' s' v R' S' V' => h ρ' s' v R' (S₁.trans S') V'
    · cases hu
  | _ => cases hu
/-! the matcher made -/
def newM (g : List AV → M AV) (l : List AV) : M AV := fun σ =>
  match g (.ref σ.hp.length :: l) { σ with hp := σ.hp ++ [.inst (List.replicate 10 none)] } with
  | some (.none, σ') => some (.ref σ.hp.length, σ')
  | _ => none
theorem AOk.call {A : Around} {c : Addr} {vs : List Value} (h : AOk (k + 1) A) : AOk k (A.under (.builtin "type.__call__" ⟨.ref c :: vs, []⟩)) := by
  have e0 : (Code.builtin "type.__call__" ⟨.ref c :: vs, []⟩).frames = 0 := by rfl
  refine ⟨h.1, ?_, ?_⟩
  · have := h.2.1
    show A.depth + (Code.builtin "type.__call__" ⟨.ref c :: vs, []⟩).weight + _ ≤ _
    have e : (Code.builtin "type.__call__" ⟨.ref c :: vs, []⟩).weight = 1 := by unfold Code.weight; rw [e0]; rfl
    rw [e]; omega
  · have := h.2.2
    show A.units + (Code.builtin "type.__call__" ⟨.ref c :: vs, []⟩).cUnits + _ ≤ _
    have e : (Code.builtin "type.__call__" ⟨.ref c :: vs, []⟩).cUnits = 1 := by unfold Code.cUnits; simp only [e0]
    omega
theorem dcode_cls {fI : Addr} {g : List AV → M AV} (hg : DCode C k env (.ref fI) g) (hm : makesIn C.K C.sC = true) (hi : findIn C.K (.ref C.sC) "__init__" = some (some (.ref fI))) (hf : isFn C.K (.ref fI) = true) :
    DCode C (k + 1) env (.ref C.sC) (newM g) := by
  intro A σ l a σ' hA hmm ρ s Q vs R V h
  unfold newM at hmm
  split at hmm
  · rename_i σ'' hgm
    cases hmm
    obtain ⟨hh, gg, d, t, os⟩ := s
    have hK : C.K.In hh := fun a o e => R.base _ _ (C.X a o e)
    refine make_core (makes_of hK hm) (looks_findIn hK hi) (fun self => bind_fn hK self (beq_iff_eq.mp hf)) (.inl rfl) ?_
    have hk : ∀ b o, hh.get? b = some o → ((hh.push emptyDict).push (instObj C.sC hh.objs.size)).get? b = some o := fun b o e => Heap.get?_push_of_some _ (Heap.get?_push_of_some _ e)
    have hsz : (hh.push emptyDict).objs.size = hh.objs.size + 1 := Heap.size_push ..
    have hx : ((hh.push emptyDict).push (instObj C.sC hh.objs.size)).get? (hh.objs.size + 1) = some (instObj C.sC hh.objs.size) := by
      rw [← hsz]; exact Heap.get?_push_size _ rfl
    have hdx : ((hh.push emptyDict).push (instObj C.sC hh.objs.size)).get? hh.objs.size = some emptyDict := Heap.get?_push_of_some _ (Heap.get?_push_size _ rfl)
    have hR := R.allocG (h' := (hh.push emptyDict).push (instObj C.sC hh.objs.size)) (a₀ := hh.objs.size + 1) (d₀ := hh.objs.size) (.inst (List.replicate 10 none)) hk (Nat.le_succ _) (Nat.le_refl _) R.lsize
      ⟨by omega, hx, #[], 0, hdx, ⟨fun e he => by simp at he, by simp⟩, fun i av hi => by
        rw [List.getElem?_replicate] at hi
        split at hi <;> cases hi⟩
    have hS : Sp env.locals ρ σ ⟨hh, gg, d, t, os⟩ (ρ ++ [(hh.objs.size + 1, hh.objs.size)]) { σ with hp := σ.hp ++ [.inst (List.replicate 10 none)] } ⟨(hh.push emptyDict).push (instObj C.sC hh.objs.size), gg, d, t, os⟩ :=
      Sp.allocG (s := ⟨hh, gg, d, t, os⟩) _ _ hk (Nat.le_succ _) (Nat.le_refl _)
    have hr : (ρ ++ [(hh.objs.size + 1, hh.objs.size)])[σ.hp.length]? = some (hh.objs.size + 1, hh.objs.size) := by
      rw [← R.len, List.getElem?_append_right (Nat.le_refl _), Nat.sub_self]; rfl
    refine hg _ _ (.ref σ.hp.length :: l) .none σ' hA.call hgm _ ⟨(hh.push emptyDict).push (instObj C.sC hh.objs.size), gg, d, t, os⟩ _ (.ref (hh.objs.size + 1) :: vs) hR (.cons (.ref hr) (V.step hS)) fun ρ' s' v R' S' V' => ?_
    cases V'
    exact ⟨rfl, h ρ' s' _ R' (hS.trans S') (.ref (S'.ext _ _ hr))⟩
  · cases hmm
end
end Mine

open PySem PySem.W PyProof.Rows
set_option Elab.async false
set_option maxRecDepth 100000
set_option maxHeartbeats 1000000
set_option linter.unusedVariables false
namespace Mine
/-- what is known of the class Match -/
structure MatchOK (C : Cx) (fN : Addr) : Prop where
  obj : ∃ oc od cd sl, C.h₀.get? C.mC = some ⟨oc, od, .cls cd, sl⟩ ∧ cd.abstract = false ∧ cd.hasDel = false ∧ cd.mro.isEmpty = false
  mro : ∃ cd : ClassData, Looks (model C.prog C.w) C.h₀ (mroOf (.ref C.mC)) cd.mro ∧ cd.mro.isEmpty = false
  made : Looks (model C.prog C.w) C.h₀ (Bind.madeBy (.ref C.mC)) none
  base : Looks (model C.prog C.w) C.h₀ (Bind.staticBase (.ref C.mC)) (.type "tuple")
  baseM : Looks (model C.prog C.w) C.h₀ (Bind.madeBy (.type "tuple")) (some "tuple.__new__")
  isT : Looks (model C.prog C.w) C.h₀ (isType (.ref C.mC)) true
  self : Looks (model C.prog C.w) C.h₀ (isSubtype (.ref C.mC) (.ref C.mC)) true
  subT : Looks (model C.prog C.w) C.h₀ (isSubtype (.ref C.mC) (.type "tuple")) true
  subO : Looks (model C.prog C.w) C.h₀ (isSubtype (.ref C.mC) (.type "object")) true
  call : Looks (model C.prog C.w) C.h₀ (specialOf (.ref C.mC) "__call__") (some (.builtin "type.__call__"))
  typ : Looks (model C.prog C.w) C.h₀ (isInstance (.ref C.mC) (.type "type")) true
  init : Looks (model C.prog C.w) C.h₀ (typeLookup (.ref C.mC) "__init__") (some (.builtin "object.__init__"))
  new : ∀ (A : Around) (Q : Value → Shared → Prop) (E : Value → Shared → Prop) (s : Shared), (∀ b o, C.h₀.get? b = some o → s.heap.get? b = some o) → Q (.ref fN) { s with toks := s.toks + 1 } → wpAny (model C.prog C.w) A (getAttr (.ref C.mC) "__new__") Q E s
theorem tnew_kind : builtinKind "tuple.__new__" = some .builtinFn := by decide +kernel
theorem tnew_split : splitId "tuple.__new__" = some ("tuple", "__new__") := by decide +kernel
def tnewSig : Manifest.Signature := ⟨.constructor, "tuple", "tuple", .cls, [⟨"iterable", .posOnly, false⟩]⟩
theorem tnew_row : Manifest.signature? "tuple.__new__" = some tnewSig := by kernel_rfl
theorem tnew_args (a b : Value) : Bind.checkArgs "tuple.__new__" tnewSig ⟨[a, b], []⟩ = pure () := by kernel_rfl
theorem tnew_canon : (Manifest.canonical "tuple.__new__" != Manifest.canonical "tuple.__new__") = false := by simp
section
variable {C : Cx} {k : Nat} {env : Env} {fN : Addr}
open Classical in
noncomputable def tnewM (C : Cx) : List AV → M AV
  | [.st v, .tup l] => fun σ => if v = .ref C.mC ∧ l.length ≤ 64 then some (.mat l, σ) else none
  | _ => fun _ => none
theorem code_tnew (O : MatchOK C fN) {a : Addr} {its : Array Value} {h : Heap} {g : Array GenState} {d : Drawn} {t : Nat} {os : OsState} {A : Around} {R : Result → Shared → Prop} (hb : ∀ b o, C.h₀.get? b = some o → h.get? b = some o)
    (ha : h.get? a = some { cls := .type "tuple", data := .seq its }) (hz : its.size ≤ sizeLine)
    (hq : ∀ h' : Heap, (∀ b o', h.get? b = some o' → h'.get? b = some o') → R (.ok (.ret (.ref (h'.objs.size + 1)))) ⟨(h'.push emptyDict).push { cls := .ref C.mC, dict := some h'.objs.size, data := .seq its }, g, d, t, os⟩) :
    codeAny (model C.prog C.w) A (.call (.builtin "tuple.__new__") ⟨[.ref C.mC, .ref a], []⟩) R ⟨h, g, d, t, os⟩ := by
  obtain ⟨oc, od, cd, sl, hC, e1, e2, e4⟩ := O.obj
  have hC' := hb _ _ hC
  have l2 := O.base.keeps hb
  have l3 := O.baseM.keeps hb
  have l4 := O.isT.keeps hb
  have l5 := O.subT.keeps hb
  have l6 := O.init.keeps hb
  refine codeAny_call_builtin_code (plainId_quiet PySem.F.plain_tuple_new _) ?_
  unfold checkBuiltinCall
  simp only [tnew_kind, tnew_split, tnew_row, tnew_args]
  repeat (first | simp only [bne_self_eq_false, Bool.false_eq_true, if_false] | lk)
  refine codeAny_builtin PySem.F.entry_tuple_new ?_
  unfold Builtin.«tuple.__new__»
  have here : Looks (model C.prog C.w) h (Bind.madeHere "tuple.__new__" (.ref C.mC)) () := l2.andThen (l3.andThen (Looks.of_pure (by simp only [Option.map_some, bne_self_eq_false, Bool.false_eq_true, if_false])))
  repeat (first | with_reducible refine wpAny_collect_seq a (.inr rfl) ha rfl rfl ?_ (hsz := hz) | simp only [bne_self_eq_false, Bool.false_eq_true, if_false] | lk)
  intro h' hk
  refine wpAny_bind (wpAny_pure (wpAny_bind (wpAny_alloc (wpAny_bind ?_))))
  unfold newObj
  show wpAny _ _ (if its.toList.toArray.size > sizeLine then _ else _) _ _ _
  rw [if_neg (by simp; omega)]
  unfold newObjAsIs classHasDel
  refine wpAny_bind (wpAny_alloc (wpAny_bind (wpAny_bind (wpAny_load (Heap.get?_push_of_some _ (Heap.get?_push_of_some _ (hk _ _ hC'))) (wpAny_pure ?_)))))
  rw [e2]
  refine wpAny_pure (wpAny_pure ?_)
  have := hq h' hk
  rw [Heap.size_push]
  simpa using this
theorem Sp.pushes {L : Addr} {ρ : Rho} {σ : St} {s : Shared} {h' : Heap} (hk : ∀ b o, s.heap.get? b = some o → h'.get? b = some o) (t : Nat) : Sp L ρ σ s ρ σ { s with heap := h', toks := t } where
  ext := fun _ _ h => h
  keep := fun b o e _ _ => hk b o e
  frz := fun b o e _ => hk b o e
  new := fun n a d hn hr => by
    have := (List.getElem?_eq_some_iff.mp hr).1
    omega
  live := fun b o e => ⟨o, hk b o e⟩
  lock := fun _ h => h
  os := rfl
  gens := fun h => h
theorem Rep.pushes {ρ : Rho} {σ : St} {h h' : Heap} (R : Rep C env ρ σ h) (hk : ∀ b o, h.get? b = some o → h'.get? b = some o) : Rep C env ρ σ h' :=
  R.move (fun b o _ e => hk b o e) (fun b o e _ => hk b o e) (fun b o _ e => hk b o e)
theorem dc_tnew (O : MatchOK C fN) : DC C k env (RV C) (fun vs => call (.builtin "tuple.__new__") vs) (tnewM C) := by
  intro A σ l a σ' hA hm ρ s Q E vs R V h
  unfold tnewM at hm
  split at hm
  · rename_i v l'
    split at hm
    · rename_i hc
      obtain ⟨rfl, hlen⟩ := hc
      cases hm
      cases V with
      | cons x V => cases V with
        | cons y V => cases V with
          | nil => cases x with
            | st _ => cases y with
              | @tup _ a₁ its ht hs =>
                obtain ⟨hh, g, d, t, os⟩ := s
                refine wpAny_call (code_tnew O (fun b o e => R.base b o e) ht (by rw [List.size_toArray, ← hs.length, sizeLine_eq]; omega) fun h' hk => ?_)
                have hk2 : ∀ b o, hh.get? b = some o → ((h'.push emptyDict).push { cls := .ref C.mC, dict := some h'.objs.size, data := .seq its.toArray }).get? b = some o := fun b o e => Heap.get?_push_of_some _ (Heap.get?_push_of_some _ (hk b o e))
                have hsz : (h'.push emptyDict).objs.size = h'.objs.size + 1 := Heap.size_push ..
                refine h ρ _ _ (R.pushes hk2) (Sp.pushes (s := ⟨hh, g, d, t, os⟩) hk2 t) (.mat (d := some h'.objs.size) ?_ (hs.mono (fun b o e _ => hk2 b o e) fun _ _ e => e))
                rw [← hsz]; exact Heap.get?_push_size _ rfl
    · cases hm
  · cases hm
/-- a method taken of a built-in type by its name, called -/
theorem den_tymeth {o : PySem.Expr} {name : Str} {apos pos : Pos} {args : List PySem.Expr} {T id : String} {ms : M (List AV)} {g : List AV → M AV}
    (ho : DV C k env (eval o env) (pure (.st (.type T)))) (hs : DL C k env (spliced (backTo pos (starEach args env))) ms) (hg : DC C k env (RV C) (fun vs => call (.builtin id) vs) g)
    (ht : typeOf (.type T) = pure (.type "type")) (hst' : Manifest.isStub T = false) (e : findCls C.K (.type T) (.type "type") name = some (.val (.builtin id))) (hh : handedIn (.builtin id) = true)
    (hst : (backTo pos (starEach args env)).any (·.1) = false)
    (pl : Sem Bool) (he : eval (.Call (.Attribute o name apos) args [] pos) env = (do
      let ov ← eval o env
      standAt apos.atName
      let (f, first) ← holding [ov] (getMethod ov name pl)
      callWith pos f first (backTo pos (starEach args env)) (backToKw pos (keywordEach [] env)))) :
    DV C k env (eval (.Call (.Attribute o name apos) args [] pos) env) (do let l ← ms; g l) := by
  intro A σ a σ' hA hm ρ s Q E R h
  refine methodCall_KW (ho A σ _ σ hA rfl ρ s _ E R fun ρ₁ s₁ v₁ R₁ S₁ V₁ => ?_) he
  cases V₁
  obtain ⟨mm, hns, hsl⟩ := R₁.ns
  refine method_type (R₁.fr hns) C.X ht hst' e hh ?_
  have hk : ∀ b o, s₁.heap.get? b = some o → s₁.heap.get? b = some o := fun _ _ e => e
  exact cw_plain (first := []) hs hg (.inl rfl) hst hA hm (s := { s₁ with toks := s₁.toks + 1 }) R₁ .nil fun ρ' s' v R' S' V' => h ρ' s' v R' ((S₁.trans (Sp.toks _)).trans S') V'
def matM (g : List AV → M AV) (mv : AV) : List AV → M AV
  | [x, y, z] => fun σ => (match g [mv, x, y, z] σ with
    | some (.mat t, σ') => some (.mat t, σ')
    | _ => none)
  | _ => fun _ => none
theorem oi_args4 (a b c d : Value) : argsOk "object.__init__" ⟨[a, b, c, d], []⟩ := by unfold argsOk; kernel_rfl
theorem oi_type : typeOf (.builtin "object.__init__") = pure (.type "wrapper_descriptor") := by kernel_rfl
theorem dcode_match (O : MatchOK C fN) {g : List AV → M AV} (hg : DCode C k env (.ref fN) g) : DCode C (k + 1) env (.ref C.mC) (matM g (.st (.ref C.mC))) := by
  intro A σ l a σ' hA hmm ρ s Q vs R V h
  unfold matM at hmm
  split at hmm
  · rename_i x y z
    split at hmm
    · rename_i tl σ'' hgm
      cases hmm
      obtain ⟨hh, gg, d, t, os⟩ := s
      have hb : ∀ b o, C.h₀.get? b = some o → hh.get? b = some o := R.base
      obtain ⟨oc, od, cd, sl, hC, e1, e2, e4⟩ := O.obj
      have call := O.call.keeps hb
      have typ := O.typ.keeps hb
      have made := O.made.keeps hb
      cases V with
      | cons vx V => cases V with
        | cons vy V => cases V with
          | cons vz V => cases V with
            | nil =>
              rename_i v1 v2 v3
              refine codeAny_of_tree ?_
              show wpAny _ _ (callAny (.ref C.mC) _) _ _ _
              refine nd_load (hb _ _ hC) ?_
              show wpAny _ _ (callAny.viaDunder (.ref C.mC) _) _ _ _
              unfold callAny.viaDunder
              refine wpAny_bind (call.at ?_)
              dsimp only
              rw [tc_bind]
              refine wpAny_bind (wpAny_pure (wpAny_bind (wpAny_pure ?_)))
              refine wpAny_pure (a := Fin.again (.call (.builtin "type.__call__") ⟨.ref C.mC :: [v1, v2, v3], []⟩)) (And.intro rfl ?_)
              refine codeAny_call_builtin_at (Code.quiet_builtin _ (by decide +kernel)) entry_typeCall (check_slot tc_kind tc_split typ (tc_args _ _ _) ?_)
              unfold Builtin.«type.__call__»
              obtain ⟨cd', hmro, hne⟩ := O.mro
              have hm := hmro.keeps hb
              repeat (first | with_reducible refine O.new _ _ _ _ hb ?_ | with_reducible refine wpAny_call ?_ | simp only [hne, Bool.false_eq_true, if_false] | lk)
              have VV : VRels C.mC hh ρ [.st (.ref C.mC), x, y, z] [.ref C.mC, v1, v2, v3] := .cons (.st _) (.cons vx (.cons vy (.cons vz .nil)))
              refine hg _ _ _ _ _ hA.call hgm ρ ⟨hh, gg, d, t + 1, os⟩ _ _ R VV fun ρ' s' v R' S' V' => ?_
              cases V' with
              | @mat _ ra dd its hx hs =>
                have hb' : ∀ b o, C.h₀.get? b = some o → s'.heap.get? b = some o := R'.base
                obtain ⟨hh', gg', d', t', os'⟩ := s'
                have self := O.self.keeps hb'
                have init := O.init.keeps hb'
                have subO := O.subO.keeps hb'
                have made' := O.made.keeps hb'
                have t1 : Looks (model C.prog C.w) hh' (typeOf (.ref ra)) (.ref C.mC) := (Looks.ld hx).andThen .now
                have t2 : Looks (model C.prog C.w) hh' (isInstance (.ref ra) (.type "object")) true := t1.andThen subO
                unfold isInstance callSpecial? specialOf
                dsimp only at hb' ⊢
                have bnd : Looks (model C.prog C.w) hh' (bindSpecial (.builtin "object.__init__") (.ref ra)) (.builtin "object.__init__", [.ref ra]) := Looks.of_pure (oi_bind _)
                repeat (first | with_reducible refine wpAny_call ?_ | simp only [Bool.not_true, Bool.false_eq_true, if_false] | lk)
                refine codeAny_call_builtin oi_plain entry_oi (check_slot oi_kind oi_split t2 (oi_args4 _ _ _ _) ?_)
                unfold Builtin.«object.__init__»
                repeat (first | simp only [Bool.not_true, Bool.false_eq_true, if_false] | lk)
                exact h ρ' ⟨hh', gg', d', t', os'⟩ _ R' ((Sp.toks (s := ⟨hh, gg, d, t, os⟩) (t + 1)).trans S') (.mat hx hs)
    · cases hmm
  · cases hmm
end
end Mine

open PySem PySem.W PyProof.Rows
set_option Elab.async false
set_option maxRecDepth 100000
set_option maxHeartbeats 1000000
set_option linter.unusedVariables false
namespace Mine
section
variable {prog : Program} {w : World} {A : Around} {E : Value → Shared → Prop} {s : Shared}
theorem setItem_plain {l : Addr} {items : Array Value} {k : Int} {t : Tok} {v : Value} {Q : Unit → Shared → Prop} (hl : s.heap.PlainList l items)
    (h0 : 0 ≤ k) (hfit : k < 2 ^ 63) (hn : k < items.size)
    (hQ : ∀ h', h'.PlainList l (items.setIfInBounds k.toNat v) → Heap.SameBut l s.heap h' → Q () { s with heap := h' }) :
    wpAny (model prog w) A (setItem (.ref l) (.int k t) v) Q E s := by
  obtain ⟨ep, ho⟩ := id hl
  have hl' := hl.isList
  unfold setItem
  try with_reducible refine wpAny_holding ?_
  first | refine wpAny_bind (wpAny_pure ?_) | skip
  refine wpAny_bind (wpAny_sequenceKey hl'.typeIs (by decide) ?_)
  refine wpAny_bind (wpAny_callSpecial?_slot (name := Str.ofString "__setitem__") hl'.typeIs slot_list_setitem
    (wpAny_call_entry slot_list_setitem hl'.typeIs entry_list_setitem ?_ (args_list_setitem _ _ _)))
  show wpAny _ _ (Builtin.List.listSubscript? (.int k t) >>= _) _ _ s
  refine wpAny_bind (wpAny_listSubscript_int (fitsIndex_of h0 hfit) ?_)
  clear hfit
  obtain ⟨j, rfl⟩ := Int.eq_ofNat_of_zero_le h0
  have hj : j < items.size := by omega
  have hx' : items[j]? = some items[j] := Array.getElem?_eq_getElem hj
  show wpAny _ _ ((seqItemAt l j >>= fun r => pure (r.map (j, ·))) >>= _) _ _ s
  refine wpAny_bind (wpAny_bind (wpAny_seqItemAt ho rfl (wpAny_pure ?_)))
  rw [hx']
  show wpAny _ _ (setSeqItemAt l j v >>= _) _ _ s
  have hfin : (s.heap.update l (Obj.mapSeq (·.setIfInBounds j v))).PlainList l (items.setIfInBounds j v) := by
    refine ⟨ep, ?_⟩
    have hob : (s.heap.update l (Obj.mapSeq (·.setIfInBounds j v))).get? l = some (Obj.mapSeq (·.setIfInBounds j v) { cls := .type "list", data := .seq items ep }) := Heap.get?_update_self _ ho rfl
    rw [hob]
    simp [Obj.mapSeq]
  refine wpAny_bind (wpAny_setSeqItemAt ho rfl ?_)
  first
    | exact wpAny_bind (wpAny_pure (wpAny_pure ⟨.none, rfl, wpAny_pure (hQ _ hfin (Heap.SameBut.update ..))⟩))
    | exact wpAny_pure ⟨.none, rfl, wpAny_pure (hQ _ hfin (Heap.SameBut.update ..))⟩
end
section
variable {C : Cx} {k : Nat} {env : Env}
theorem is_refs {M : Model} {A : Around} {E : Value → Shared → Prop} {s : Shared} {x y : Addr} {ox oy : Obj} {Q : Value → Shared → Prop} (hne : x ≠ y) (hx : s.heap.get? x = some ox) (hy : s.heap.get? y = some oy) (hc : ox.cls ≠ .type "tuple") (h : Q (.bool false) s) : wpAny M A (compareOp .Is (.ref x) (.ref y)) Q E s := by
  show wpAny M A (do return .bool (← isSame (.ref x) (.ref y))) Q E s
  refine wpAny_bind ?_
  unfold isSame
  have e : (x == y) = false := by simpa using hne
  simp only [e, Bool.false_eq_true, if_false]
  refine wpAny_bind (wpAny_load hx (wpAny_bind (wpAny_load hy ?_)))
  split
  · rename_i hc' _ _ _; exact absurd hc' hc
  · exact wpAny_pure (wpAny_pure h)
def notCell : AO → Bool
  | .cell _ | .lock => false
  | _ => true
theorem ORel.live {h : Heap} {ρ : Rho} {o : AO} {a d : Nat} (hl : notCell o = true) (x : ORel C h ρ o (a, d)) : ∃ ob, h.get? a = some ob ∧ ob.cls ≠ .type "tuple" := by
  cases o with
  | list l => obtain ⟨rfl, its, ⟨n, p⟩, v⟩ := x; exact ⟨_, p, by simp⟩
  | dict l => obtain ⟨rfl, kvs, ⟨o, es, ep, p, hx, r⟩, q, v⟩ := x; exact ⟨_, p, by rw [hx.1]; simp⟩
  | set l => obtain ⟨rfl, ⟨m, o, es, ep, t, p, hx, r⟩⟩ := x; exact ⟨_, p, by rw [hx.1]; simp⟩
  | inst l => obtain ⟨e, p, es, n, q, k, r⟩ := x; exact ⟨_, p, by simp⟩
  | _ => cases hl
def isM : AV → AV → M Bool
  | a, .none => fun σ => (isNoneAV a).map (·, σ)
  | .ref n, .ref m => fun σ => match σ.hp[n]?, σ.hp[m]? with
    | some o, some o' => if notCell o && notCell o' then some (n == m, σ) else none
    | _, _ => none
  | .ref _, .str _ => pure false
  | _, _ => fun _ => none
theorem do_is : DO2 C k env RC (compareOp .Is) isM := by
  intro A σ a b r σ' hA hm ρ s Q E va vb R Va Vb h
  unfold isM at hm
  split at hm
  · cases Vb
    obtain ⟨b, hb, e⟩ := Option.map_eq_some_iff.mp hm
    cases e
    refine is_none ?_
    rw [isNone_v Va hb]
    exact h ρ _ _ R (Sp.refl _ _ _ _) rfl
  · rename_i n m
    split at hm
    · rename_i o o' ho ho'
      split at hm
      · rename_i hc
        cases hm
        obtain ⟨c1, c2⟩ := Bool.and_eq_true_iff.mp hc
        cases Va with
        | @ref _ x dx hx => cases Vb with
          | @ref _ y dy hy =>
            by_cases hnm : n = m
            · subst hnm
              rw [hx] at hy; cases hy
              refine wpAny_is_ref_self ?_
              rw [beq_self_eq_true] at h
              exact h ρ _ _ R (Sp.refl _ _ _ _) rfl
            · obtain ⟨ox, px, cx⟩ := (R.objs n _ _ ho hx).live c1
              obtain ⟨oy, py, cy⟩ := (R.objs m _ _ ho' hy).live c2
              have e : (n == m) = false := by simpa using hnm
              rw [e] at h
              exact is_refs (R.sep n m _ _ _ _ hx hy hnm).1 px py cx (h ρ _ _ R (Sp.refl _ _ _ _) rfl)
      · cases hm
    · cases hm
  · obtain ⟨rfl, rfl⟩ := pure_some hm
    cases Va with
    | ref hx => cases Vb with
      | str _ t => exact wpAny_is_plain (by rfl) (h ρ _ _ R (Sp.refl _ _ _ _) rfl)
  · cases hm
/-! dicts: made empty, stored into, read, asked -/
theorem den_dict0 {pos : Pos} : DV C k env (eval (.Dict [] [] pos) env) (allocM (.dict [])) := by
  intro A σ a σ' hA hm ρ s Q E R h
  cases hm
  have e : ∀ (n : Nat) q, ρ[n]? = some q → (ρ ++ [(s.heap.objs.size, s.heap.objs.size)])[n]? = some q := fun n q e => by rw [List.getElem?_append_left (List.getElem?_eq_some_iff.mp e).1]; exact e
  refine wpAny_Dict_empty (h _ _ _ (R.alloc _ (.dict []) R.lsize ⟨rfl, [], Heap.DictOf.new _, PairsR.nil⟩) (Sp.alloc _ _ _) (.ref (d := s.heap.objs.size) ?_))
  rw [← R.len, List.getElem?_append_right (Nat.le_refl _), Nat.sub_self]; rfl
def setItemM : AV → AV → AV → M Unit
  | .ref n, .int i, v => fun σ => match σ.hp[n]? with
    | some (.dict l) => if l.length ≤ lim then some ((), { σ with hp := σ.hp.set n (.dict (putD l i v)) }) else none
    | some (.list l) => if l.length ≤ lim then (match idxOf i l.length with
      | some j => if 0 ≤ i then some ((), { σ with hp := σ.hp.set n (.list (l.set j v)) }) else none
      | none => none) else none
    | _ => none
  | _, _, _ => fun _ => none
theorem VRels.set {mC : Addr} {h : Heap} {ρ : Rho} : ∀ {l : List AV} {vs : List Value} (j : Nat) {a : AV} {v : Value}, VRels mC h ρ l vs → VRel mC h ρ a v → VRels mC h ρ (l.set j a) (vs.set j v)
  | _, _, _, _, _, .nil, _ => .nil
  | _, _, 0, _, _, .cons _ r, V => .cons V r
  | _, _, j + 1, _, _, .cons x r, V => .cons x (VRels.set j r V)
theorem da_sub {o i : PySem.Expr} {pos : Pos} {mo mi : M AV} (ho : DV C k env (eval o env) mo) (hi : DV C k env (eval i env) mi) : DO1 C k env RU (assign (.Subscript o i pos) env) (fun v => do let a ← mo; let b ← mi; setItemM a b v) := by
  intro A σ v r σ' hA hm ρ s Q E w R V h
  obtain ⟨x, σ₁, hx, hm⟩ := bind_some hm
  obtain ⟨y, σ₂, hy, hm⟩ := bind_some hm
  rw [arm_assign_Subscript]
  refine wpAny_bind (wpAny_holding (ho A σ x σ₁ hA hx ρ s _ E R fun ρ₁ s₁ v₁ R₁ S₁ V₁ => wpAny_bind (wpAny_holding (hi A σ₁ y σ₂ hA hy ρ₁ s₁ _ E R₁ fun ρ₂ s₂ v₂ R₂ S₂ V₂ => wpAny_bind (wpAny_standAt (wpAny_bind (wpAny_holding ?_)))))))
  have V' := (V.step S₁).step S₂
  have V₁' := V₁.step S₂
  unfold setItemM at hm
  split at hm
  · rename_i n j _
    cases V₁' with
    | @ref _ a d hr =>
      cases V₂ with
      | int _ t =>
        split at hm
        · rename_i l hl
          split at hm
          · rename_i hlen
            cases hm
            obtain ⟨a₂, d₂, hq, rfl, kvs, hd, hp⟩ := R₂.at hl
            rw [hr] at hq; cases hq
            refine wpAny_setItem_pairs (isInt_int j t) hd (fun h' hd' hs => wpAny_release ?_) (by rw [← hp.length]; exact Nat.le_trans hlen lim_line)
            have hfz := frz_sameBut hs ((R₂.objs n _ _ hl hr).notFrozen _ (.inl rfl))
            obtain ⟨R', S'⟩ := R₂.turn (o' := .dict (putD l j v)) hr hl (by simp) hs ⟨rfl, _, hd', (hp.mono hfz fun _ _ e => e).put (V'.mono hfz (fun _ _ e => e) (ρ' := ρ₂))⟩ (s₂.toks + 1)
            exact h ρ₂ _ () R' ((S₁.trans S₂).trans S') trivial
          · cases hm
        · rename_i l hl
          split at hm
          · rename_i hlen
            split at hm
            · rename_i j' hj
              split at hm
              · rename_i h0
                cases hm
                obtain ⟨a₂, d₂, hq, rfl, its, hp, W⟩ := R₂.at hl
                rw [hr] at hq; cases hq
                have hwl := W.length
                unfold idxOf at hj
                rw [if_pos h0] at hj
                split at hj
                · rename_i hlt
                  simp only [Option.some.injEq] at hj; subst hj
                  unfold lim at hlen
                  refine setItem_plain hp h0 (by omega) (by rw [List.size_toArray, ← hwl]; exact hlt) fun h' hp' hs => wpAny_release ?_
                  have hfz := frz_sameBut hs ((R₂.objs n _ _ hl hr).notFrozen _ (.inl rfl))
                  obtain ⟨R', S'⟩ := R₂.turn (o' := .list (l.set j.toNat v)) hr hl (by simp) hs ⟨rfl, its.set j.toNat w, by simpa using hp', VRels.set _ (VRels.mono hfz (fun _ _ e => e) W) (V'.mono hfz (fun _ _ e => e))⟩ s₂.toks
                  exact h ρ₂ _ () R' ((S₁.trans S₂).trans S') trivial
                · cases hj
              · cases hm
            · cases hm
          · cases hm
        · cases hm
  · cases hm
end
end Mine

open PySem PySem.W PyProof.Rows
set_option Elab.async false
set_option maxRecDepth 100000
set_option maxHeartbeats 1000000
set_option linter.unusedVariables false
namespace Mine
section
variable {C : Cx} {k : Nat} {env : Env}
theorem new_ref {ρ : Rho} {σ : St} {h : Heap} (R : Rep C env ρ σ h) {a d : Nat} : (ρ ++ [(a, d)])[σ.hp.length]? = some (a, d) := by
  rw [← R.len, List.getElem?_append_right (Nat.le_refl _), Nat.sub_self]; rfl
def setM : List AV → M AV
  | [] => allocM (.set [])
  | _ => fun _ => none
theorem made_set {prog : Program} {w : World} {A : Around} {E : Value → Shared → Prop} {s : Shared} {Q : Value → Shared → Prop} (h : Q (.ref s.heap.objs.size) { s with heap := s.heap.push { cls := .type "set", dict := none, data := .set #[] 0 (.fresh 0 0 (!w.params.followText "set-order")) } }) :
    codeAny (model prog w) A (.call (.builtin "set.__new__") ⟨[.type "set"], []⟩) (wants Q E) s := by
  refine codeAny_of_tree ?_
  show wpAny _ A.in1 (do checkBuiltinCall "set.__new__" ⟨[.type "set"], []⟩; again (.builtin "set.__new__" ⟨[.type "set"], []⟩)) _ _ s
  refine wpAny_bind (wpAny_of_eq PySem.F.newCall_set_0 (wpAny_pure ⟨plainId_quiet PySem.F.plain_set_new _, codeAny_builtin PySem.F.entry_set_new ?_⟩))
  rw [Around.under_plainId PySem.F.plain_set_new _]
  unfold Builtin.«set.__new__» Builtin.Frozenset.newClass
  have hsub := sub_set_self
  obtain ⟨hp, g, d, tk, os⟩ := s
  dsimp only
  wp_walk
  refine wpAny_askSetting (wpAny_pure ?_)
  dsimp only
  simp only [newObj]
  refine wpAny_bind (wpAny_alloc (wpAny_pure ?_))
  exact wpAny_pure h
theorem call_set0 {prog : Program} {w : World} {A : Around} {E : Value → Shared → Prop} {s : Shared} {Q : Value → Shared → Prop} (h : ∀ o, SetSm w (s.heap.push o) s.heap.objs.size [] → Q (.ref s.heap.objs.size) { s with heap := s.heap.push o }) :
    wpAny (model prog w) A (call (.type "set") []) Q E s := by
  obtain ⟨c, tl, hmro⟩ := PySem.F.called_set.mro
  have hmade := PySem.F.called_set.made
  have hsub := PySem.F.called_set.sub
  refine wpAny_call (codeAny_of_tree ?_)
  show wpAny _ _ (callAny (.type "set") _) _ _ _
  refine wpAny_pure ⟨Code.quiet_builtin _ (by decide +kernel), codeAny_builtin PySem.F.entry_type_call ?_⟩
  rw [Around.under_plain (weight_type_call_type "set" [] []) rfl]
  have h1 := PySem.F.called_set.notType
  have h2 := PySem.F.called_set.canCreate
  have hct := PySem.F.typeCall_set_0
  repeat (any_goals (first | assumption | wp_step))
  refine codeAny_mono (made_set (E := E) (Q := fun obj s₁ => obj = .ref s.heap.objs.size ∧ s₁ = { s with heap := s.heap.push { cls := .type "set", dict := none, data := .set #[] 0 (.fresh 0 0 (!w.params.followText "set-order")) } }) ⟨rfl, rfl⟩) fun r s₁ hr => ?_
  cases r with
  | error e => exact hr
  | ok fl =>
    cases fl with
    | ret obj =>
      obtain ⟨rfl, rfl⟩ := hr
      have hS : (s.heap.push { cls := .type "set", dict := none, data := .set #[] 0 (.fresh 0 0 (!w.params.followText "set-order")) }).get? s.heap.objs.size = some { cls := .type "set", dict := none, data := .set #[] 0 (.fresh 0 0 (!w.params.followText "set-order")) } := Heap.get?_push_size _ rfl
      have hT : Shared.TypeIs { s with heap := s.heap.push { cls := .type "set", dict := none, data := .set #[] 0 (.fresh 0 0 (!w.params.followText "set-order")) } } (.ref s.heap.objs.size) "set" := ⟨_, hS, rfl⟩
      have hli := PySem.F.called_set.init.lookup
      have hbi := PySem.F.called_set.init.bind (.ref s.heap.objs.size)
      repeat (any_goals (first | assumption | wp_step))
      refine codeAny_mono (codeAny_call_builtin (R := wants (fun r s₂ => r = .none ∧ Q (.ref s.heap.objs.size) s₂) E) PySem.F.called_set.init.plain PySem.F.entry_set_init (check_set_init hT ?_)) fun r₂ s₂ hr₂ => ?_
      · unfold Builtin.«set.__init__» noKeywords
        wp_walk
        refine ⟨rfl, h _ ⟨by decide, _, #[], 0, _, hS, ⟨rfl, rfl, rfl⟩, rfl, ⟨rfl, fun e he => by simp at he⟩, ⟨rfl, rfl, .inl ⟨rfl, by simp⟩, rfl, ?_⟩⟩⟩
        show w.params.followText "set-order" = true ∨ (!w.params.followText "set-order") = true
        cases w.params.followText "set-order" <;> simp
      · cases r₂ with
        | error e => exact hr₂
        | ok fl₂ =>
          cases fl₂ with
          | ret v =>
            obtain ⟨rfl, hQ⟩ := hr₂
            repeat (any_goals (first | assumption | wp_step))
          | _ => exact hr₂.elim
    | _ => exact hr.elim
theorem dc_set0 : DC C k env (RV C) (fun vs => call (.type "set") vs) setM := by
  intro A σ l a σ' hA hm ρ s Q E vs R V h
  unfold setM at hm
  split at hm
  · cases hm
    cases V with
    | nil =>
      refine call_set0 fun o ho => ?_
      exact h _ _ _ (R.alloc _ (.set []) R.lsize ⟨rfl, ho⟩) (Sp.alloc _ _ _) (.ref (new_ref R))
  · cases hm
/-- a list's or a tuple's items -/
def seqM : AV → M (List AV)
  | .ref n => fun σ => match σ.hp[n]? with
    | some (.list l) => if l.length ≤ lim then some (l, σ) else none
    | _ => none
  | .tup l => fun σ => if l.length ≤ lim then some (l, σ) else none
  | _ => fun _ => none
theorem seqM_at {ρ : Rho} {σ σ' : St} {s : Shared} {a : AV} {v : Value} {l : List AV} (R : Rep C env ρ σ s.heap) (V : VRel C.mC s.heap ρ a v) (hm : seqM a σ = some (l, σ')) :
    σ = σ' ∧ l.length ≤ lim ∧ ∃ ad its T n, v = .ref ad ∧ (T = "list" ∨ T = "tuple") ∧ s.heap.get? ad = some { cls := .type T, data := .seq its.toArray n } ∧ VRels C.mC s.heap ρ l its := by
  unfold seqM at hm
  split at hm
  · split at hm
    · rename_i l' hl'
      split at hm
      · rename_i hlen
        cases hm
        cases V with
        | ref hr =>
          obtain ⟨a₁, d, hq, rfl, items, ⟨ep, hp⟩, W⟩ := R.at hl'
          rw [hr] at hq; cases hq
          exact ⟨rfl, hlen, _, items, "list", ep, rfl, .inl rfl, hp, W⟩
      · cases hm
    · cases hm
  · split at hm
    · rename_i hlen
      cases hm
      cases V with
      | tup ht hs => exact ⟨rfl, hlen, _, _, "tuple", 0, rfl, .inr rfl, ht, hs⟩
    · cases hm
  · cases hm
/-- list(x) of a list or a tuple -/
def listM : List AV → M AV
  | [a] => do let l ← seqM a; allocM (.list l)
  | _ => fun _ => none
theorem dc_list : DC C k env (RV C) (fun vs => call (.type "list") vs) listM := by
  intro A σ l a σ' hA hm ρ s Q E vs R V h
  unfold listM at hm
  split at hm
  · rename_i x
    obtain ⟨l', σ₁, h₁, hm⟩ := bind_some hm
    cases hm
    cases V with
    | cons x V => cases V with
      | nil =>
        obtain ⟨rfl, hlen, ad, its, T, n, rfl, hT, hp, W⟩ := seqM_at R x h₁
        refine call_list_seq (hsz := by rw [List.size_toArray, ← W.length]; exact Nat.le_trans hlen lim_line) ad hT hp rfl rfl fun h' c' hk hD => ?_
        refine h _ _ _ (R.allocG (.list l') hk (Nat.le_refl _) (Nat.le_refl _) R.lsize ⟨rfl, its, ⟨c', hD⟩, W.mono (fun b o e _ => hk b o e) fun n q e => by rw [List.getElem?_append_left (List.getElem?_eq_some_iff.mp e).1]; exact e⟩) (Sp.allocG (s := s) _ _ hk (Nat.le_refl _) (Nat.le_refl _)) (.ref (new_ref R))
  · cases hm
/-! in, not in -/
def intsOf : List AV → Option (List Int)
  | [] => some []
  | .int i :: l => (intsOf l).map (i :: ·)
  | _ => none
def inM : AV → AV → M Bool
  | .int i, .ref n => fun σ => match σ.hp[n]? with
    | some (.dict l) => some ((getD l i).isSome, σ)
    | some (.set l) => some (decide (i ∈ l), σ)
    | some (.list l) => (intsOf l).map fun ns => (decide (i ∈ ns), σ)
    | _ => none
  | .int i, .tup l => fun σ => (intsOf l).map fun ns => (decide (i ∈ ns), σ)
  | _, _ => fun _ => none
def notInM (a b : AV) : M Bool := do let r ← inM a b; pure (!r)
def isI (i : Int) : Value → Bool
  | .int j _ => j == i
  | _ => false
theorem ints_rel {h : Heap} {ρ : Rho} : ∀ {l : List AV} {ns : List Int} {vs : List Value}, intsOf l = some ns → VRels C.mC h ρ l vs → (∀ v ∈ vs, ∃ i t, v = Value.int i t) ∧ ∀ i : Int, vs.any (isI i) = decide (i ∈ ns)
  | [], ns, _, e, .nil => by cases e; exact ⟨fun v hv => by simp at hv, fun i => by simp⟩
  | a :: l, ns, _, e, .cons (v := v) (vs := vs) x r => by
    cases x <;> simp only [intsOf, reduceCtorEq] at e
    rename_i i t
    obtain ⟨ns', h1, rfl⟩ := Option.map_eq_some_iff.mp e
    have ih := ints_rel h1 r
    refine ⟨fun v hv => ?_, fun j => ?_⟩
    · rcases List.mem_cons.mp hv with rfl | hv
      · exact ⟨_, _, rfl⟩
      · exact ih.1 v hv
    · rw [List.any_cons, ih.2 j]
      by_cases hij : i = j
      · subst hij; simp [isI]
      · have : ¬ j = i := fun e => hij e.symm
        simp [isI, hij, this]
open PySem.SeqAt in
theorem do_in : DO2 C k env RC (compareOp .In) inM := by
  intro A σ a b r σ' hA hm ρ s Q E va vb R Va Vb h
  unfold inM at hm
  split at hm
  · rename_i i n
    cases Va with
    | int _ t => cases Vb with
      | @ref _ ad dd hr =>
        split at hm
        · rename_i l hl
          cases hm
          obtain ⟨a₁, d, hq, rfl, kvs, hd, hp⟩ := R.at hl
          rw [hr] at hq; cases hq
          refine wpAny_in_of (isInt_int i t) (R.notSys hr) hd.mapOf ?_
          rw [hp.isSome]
          exact h ρ _ _ R (Sp.toks _) rfl
        · rename_i l hl
          cases hm
          obtain ⟨a₁, d, hq, rfl, hS⟩ := R.at hl
          replace hS := hS.setOf (prog := C.prog)
          rw [hr] at hq; cases hq
          exact wpAny_inSet_of (isInt_int i t) rfl hS (h ρ _ _ R (Sp.toks _) rfl)
        · rename_i l hl
          obtain ⟨ns, hns, e⟩ := Option.map_eq_some_iff.mp hm
          cases e
          obtain ⟨a₁, d, hq, rfl, items, ⟨ep, hp⟩, W⟩ := R.at hl
          rw [hr] at hq; cases hq
          obtain ⟨h1, h2⟩ := ints_rel hns W
          refine in_listAt (items := items.toArray) (isI i) ⟨_, hp, rfl, _, rfl⟩ (fun y hy => ?_) ?_
          · obtain ⟨j, u, rfl⟩ := h1 y (by simpa using hy)
            exact EqAt.int_int j u i t
          · rw [show items.toArray.any (isI i) = items.any (isI i) from by simp, h2 i]
            exact h ρ _ _ R (Sp.refl _ _ _ _) rfl
        · cases hm
  · rename_i i l
    obtain ⟨ns, hns, e⟩ := Option.map_eq_some_iff.mp hm
    cases e
    cases Va with
    | int _ t => cases Vb with
      | @tup _ ad items ht W =>
        obtain ⟨h1, h2⟩ := ints_rel hns W
        refine in_tupleAt (items := items.toArray) (isI i) ⟨_, ht, rfl, _, rfl⟩ (fun y hy => ?_) ?_
        · obtain ⟨j, u, rfl⟩ := h1 y (by simpa using hy)
          exact EqAt.int_int j u i t
        · rw [show items.toArray.any (isI i) = items.any (isI i) from by simp, h2 i]
          exact h ρ _ _ R (Sp.refl _ _ _ _) rfl
  · cases hm
open PySem.SeqAt in
theorem do_notIn : DO2 C k env RC (compareOp .NotIn) notInM := by
  intro A σ a b r σ' hA hm ρ s Q E va vb R Va Vb h
  replace hm : (do let r ← inM a b; pure (!r) : M Bool) σ = some (r, σ') := hm
  obtain ⟨r', σ₁, hm', hr'⟩ := bind_some hm
  obtain ⟨rfl, rfl⟩ := pure_some hr'
  clear hm hr'
  have hm := hm'
  clear hm'
  unfold inM at hm
  split at hm
  · rename_i i n
    cases Va with
    | int _ t => cases Vb with
      | @ref _ ad dd hr =>
        split at hm
        · rename_i l hl
          cases hm
          obtain ⟨a₁, d, hq, rfl, kvs, hd, hp⟩ := R.at hl
          rw [hr] at hq; cases hq
          refine wpAny_notIn_of (isInt_int i t) (R.notSys hr) hd.mapOf ?_
          rw [hp.isSome]
          exact h ρ _ _ R (Sp.toks _) rfl
        · rename_i l hl
          cases hm
          obtain ⟨a₁, d, hq, rfl, hS⟩ := R.at hl
          replace hS := hS.setOf (prog := C.prog)
          rw [hr] at hq; cases hq
          exact wpAny_notInSet_of (isInt_int i t) rfl hS (h ρ _ _ R (Sp.toks _) rfl)
        · rename_i l hl
          obtain ⟨ns, hns, e⟩ := Option.map_eq_some_iff.mp hm
          cases e
          obtain ⟨a₁, d, hq, rfl, items, ⟨ep, hp⟩, W⟩ := R.at hl
          rw [hr] at hq; cases hq
          obtain ⟨h1, h2⟩ := ints_rel hns W
          refine notIn_listAt (items := items.toArray) (isI i) ⟨_, hp, rfl, _, rfl⟩ (fun y hy => ?_) ?_
          · obtain ⟨j, u, rfl⟩ := h1 y (by simpa using hy)
            exact EqAt.int_int j u i t
          · rw [show items.toArray.any (isI i) = items.any (isI i) from by simp, h2 i]
            exact h ρ _ _ R (Sp.refl _ _ _ _) rfl
        · cases hm
  · rename_i i l
    obtain ⟨ns, hns, e⟩ := Option.map_eq_some_iff.mp hm
    cases e
    cases Va with
    | int _ t => cases Vb with
      | @tup _ ad items ht W =>
        obtain ⟨h1, h2⟩ := ints_rel hns W
        refine notIn_tupleAt (items := items.toArray) (isI i) ⟨_, ht, rfl, _, rfl⟩ (fun y hy => ?_) ?_
        · obtain ⟨j, u, rfl⟩ := h1 y (by simpa using hy)
          exact EqAt.int_int j u i t
        · rw [show items.toArray.any (isI i) = items.any (isI i) from by simp, h2 i]
          exact h ρ _ _ R (Sp.refl _ _ _ _) rfl
  · cases hm
end
end Mine

open PySem PySem.W PyProof.Rows
set_option Elab.async false
set_option maxRecDepth 100000
set_option maxHeartbeats 1000000
set_option linter.unusedVariables false
namespace Mine
section
variable {C : Cx} {k : Nat} {env : Env}
/-! sum -/
theorem numsOf_rel {h : Heap} {ρ : Rho} : ∀ {l : List AV} {ns : List Int} {vs : List Value}, intsOf l = some ns → VRels C.mC h ρ l vs → numsOf vs = ns
  | [], ns, _, e, .nil => by cases e; rfl
  | a :: l, ns, _, e, .cons (v := v) (vs := vs) x r => by
    cases x <;> simp only [intsOf, reduceCtorEq] at e
    rename_i i t
    obtain ⟨ns', h1, rfl⟩ := Option.map_eq_some_iff.mp e
    simp only [numsOf, numsOf_rel h1 r]
def sumM : List AV → M AV
  | [.ref n] => fun σ => match σ.hp[n]? with
    | some (.list l) => (intsOf l).map fun ns => (.int ns.sum, σ)
    | _ => none
  | _ => fun _ => none
theorem dc_sum : DC C k env (RV C) (fun vs => call (.builtin "sum") vs) sumM := by
  intro A σ l a σ' hA hm ρ s Q E vs R V h
  unfold sumM at hm
  split at hm
  · rename_i n
    split at hm
    · rename_i l' hl'
      obtain ⟨ns, hns, e⟩ := Option.map_eq_some_iff.mp hm
      cases e
      cases V with
      | cons x V => cases V with
        | nil => cases x with
          | ref hr =>
            obtain ⟨a₁, d, hq, rfl, items, ⟨ep, hp⟩, W⟩ := R.at hl'
            rw [hr] at hq; cases hq
            have hall : AllInts items.toArray := fun v hv => (ints_rel hns W).1 v (by simpa using hv)
            obtain ⟨xs, hxs⟩ := hall.items
            refine sum_intListG (xs := xs) hA.1 ⟨_, hp, rfl, _, by rw [hxs]⟩ fun h' tk t' hk => ?_
            have hn : preSum (numAt xs) xs.size = ns.sum := by
              rw [preSum_eq, List.take_of_length_le (by simp), ← nums_intItems, ← hxs]
              rw [show items.toArray.toList = items from rfl, numsOf_rel hns W]
            rw [hn]
            exact h ρ _ _ (R.pushes hk) (Sp.pushes hk _) (.int _ _)
    · cases hm
  · cases hm
/-! an item of a dict -/
def dItemM : AV → AV → M AV
  | .ref n, .int i => fun σ => match σ.hp[n]? with
    | some (.dict l) => (getD l i).map fun a => (a, σ)
    | _ => none
  | _, _ => fun _ => none
end
end Mine

open PySem PySem.W PyProof.Rows
set_option Elab.async false
set_option maxRecDepth 100000
set_option maxHeartbeats 1000000
set_option linter.unusedVariables false
namespace Mine
/-! == of ints, tuples, lists -/
def eqZip (f : AV → AV → Option Bool) : List AV → List AV → Option Bool
  | a :: l, b :: m => (f a b).bind fun x => (eqZip f l m).map fun y => x && y
  | _, _ => some true
def eqAV (hp : List AO) : Nat → AV → AV → Option Bool
  | d + 1, .int a, .int b => some (a == b)
  | d + 1, .tup l, .tup m => (eqZip (eqAV hp d) l m).map fun x => x && l.length == m.length
  | d + 1, .ref n, .ref m => (match hp[n]?, hp[m]? with
    | some (.list l), some (.list l') => if n = m then some true else if l.length = l'.length then eqZip (eqAV hp d) l l' else some false
    | _, _ => none)
  | _, _, _ => none
section
variable {C : Cx} {k : Nat} {env : Env}
theorem eqZip_at {f : AV → AV → Option Bool} : ∀ {l m : List AV} {r : Bool}, eqZip f l m = some r → ∃ e : Nat → Bool, (∀ j (h1 : j < l.length) (h2 : j < m.length), f l[j] m[j] = some (e j)) ∧ (List.range (min l.length m.length)).all e = r
  | [], m, r, h => ⟨fun _ => true, fun j h1 => by simp at h1, by simp [eqZip] at h; simp [h]⟩
  | a :: l, [], r, h => ⟨fun _ => true, fun j h1 h2 => by simp at h2, by simp [eqZip] at h; simp [h]⟩
  | a :: l, b :: m, r, h => by
    simp only [eqZip] at h
    obtain ⟨x, hx, h⟩ := Option.bind_eq_some_iff.mp h
    obtain ⟨y, hy, rfl⟩ := Option.map_eq_some_iff.mp h
    obtain ⟨e, h1, h2⟩ := eqZip_at hy
    refine ⟨fun j => match j with | 0 => x | j + 1 => e j, fun j => ?_, ?_⟩
    · cases j with
      | zero => intro _ _; simpa using hx
      | succ j => intro a1 a2; simpa using h1 j (by simpa using a1) (by simpa using a2)
    · rw [← h2]
      simp only [List.length_cons, Nat.succ_min_succ]
      rw [List.range_succ_eq_map, List.all_cons, List.all_map]
      rfl
theorem eqZip_true {f : AV → AV → Option Bool} {mC : Addr} {h : Heap} {ρ : Rho} (ih : ∀ a b v r, VRel mC h ρ a v → VRel mC h ρ b v → f a b = some r → r = true) : ∀ {l m : List AV} {vs : List Value} {r : Bool}, VRels mC h ρ l vs → VRels mC h ρ m vs → eqZip f l m = some r → r = true
  | _, _, _, _, .nil, .nil, e => by simp [eqZip] at e; exact e
  | _, _, _, _, .cons x r, .cons y r', e => by
    simp only [eqZip] at e
    obtain ⟨u, hu, e⟩ := Option.bind_eq_some_iff.mp e
    obtain ⟨w, hw, rfl⟩ := Option.map_eq_some_iff.mp e
    rw [ih _ _ _ _ x y hu, eqZip_true ih r r' hw]; rfl
theorem eqAV_same {ρ : Rho} {σ : St} {h : Heap} (R : Rep C env ρ σ h) : ∀ (d : Nat) (a b : AV) (v : Value) (r : Bool), VRel C.mC h ρ a v → VRel C.mC h ρ b v → eqAV σ.hp d a b = some r → r = true
  | 0, _, _, _, _, _, _, e => by simp [eqAV] at e
  | d + 1, a, b, v, r, x, y, e => by
    cases x with
    | int i t =>
      cases y <;> simp only [eqAV, reduceCtorEq] at e
      simpa using e.symm
    | tup ht hs =>
      cases y with
      | @tup m _ its' ht' hs' =>
        rename_i l its
        have ei : its = its' := by
          rw [ht] at ht'
          simpa using ht'
        subst ei
        simp only [eqAV] at e
        obtain ⟨z, hz, rfl⟩ := Option.map_eq_some_iff.mp e
        rw [eqZip_true (eqAV_same R d) hs hs' hz, hs.length, hs'.length]
        simp
      | _ => simp only [eqAV, reduceCtorEq] at e
    | @ref n p dd hr =>
      cases y with
      | @ref m _ dd' hr' =>
        by_cases hnm : n = m
        · subst hnm
          simp only [eqAV, if_true] at e
          split at e
          · simpa using e.symm
          · cases e
        · exact absurd rfl (R.sep n m _ _ _ _ hr hr' hnm).1
      | _ => simp only [eqAV, reduceCtorEq] at e
    | _ => simp only [eqAV, reduceCtorEq] at e
open PySem.SeqAt in
/-- the pair of two values asked for == inside a list or a tuple -/
theorem eqAV_at {ρ : Rho} {σ : St} {s : Shared} (R : Rep C env ρ σ s.heap) : ∀ (d : Nat) (A : Around) (a b : AV) (va vb : Value) (r : Bool), A.units + d < cLine → VRel C.mC s.heap ρ a va → VRel C.mC s.heap ρ b vb → eqAV σ.hp d a b = some r → EqAt A s va vb r
  | 0, _, _, _, _, _, _, _, _, _, e => by simp [eqAV] at e
  | d + 1, A, a, b, va, vb, r, hu, x, y, e => by
    have hu' : A.in1.units + d < cLine := by show A.units + 1 + d < cLine; omega
    have hu0 : A.units < cLine := by omega
    cases x with
    | int i t =>
      cases y <;> simp only [eqAV, reduceCtorEq] at e
      rename_i j u
      obtain rfl : (i == j) = r := by simpa using e
      exact EqAt.int_int i t j u
    | @tup l p its ht hs =>
      cases y with
      | @tup m q its' ht' hs' =>
        have x0 : VRel C.mC s.heap ρ (.tup l) (.ref p) := .tup ht hs
        have y0 : VRel C.mC s.heap ρ (.tup m) (.ref q) := .tup ht' hs'
        by_cases hpq : p = q
        · subst hpq
          rw [eqAV_same R (d + 1) _ _ _ _ x0 y0 e]
          exact EqAt.same _
        · simp only [eqAV] at e
          obtain ⟨z, hz, rfl⟩ := Option.map_eq_some_iff.mp e
          obtain ⟨f, h1, h2⟩ := eqZip_at hz
          have hl := hs.length
          have hl' := hs'.length
          have := RcAt.tuples (A := A) (e := f) (l := p) (b := q) (items := its.toArray) (items2 := its'.toArray) ⟨_, ht, rfl, _, rfl⟩ ⟨_, ht', rfl, _, rfl⟩ hu0 fun j g1 g2 => by
            have k1 : j < l.length := by rw [hl]; simpa using g1
            have k2 : j < m.length := by rw [hl']; simpa using g2
            obtain ⟨w1, e1, V1⟩ := (hs.get j).1 _ (List.getElem?_eq_getElem k1)
            obtain ⟨w2, e2, V2⟩ := (hs'.get j).1 _ (List.getElem?_eq_getElem k2)
            have f1 : its.toArray[j] = w1 := by
              have := (List.getElem?_eq_some_iff.mp e1).2
              simpa using this
            have f2 : its'.toArray[j] = w2 := by
              have := (List.getElem?_eq_some_iff.mp e2).2
              simpa using this
            rw [f1, f2]
            exact eqAV_at R d A.in1 _ _ _ _ _ hu' V1 V2 (h1 j k1 k2)
          refine EqAt.of_refs hpq ?_
          simp only [List.size_toArray, ← hl, ← hl', h2] at this
          exact this
      | _ => simp only [eqAV, reduceCtorEq] at e
    | @ref n p dd hr =>
      cases y with
      | @ref m q dd' hr' =>
        by_cases hnm : n = m
        · subst hnm
          rw [hr] at hr'; cases hr'
          rw [eqAV_same R (d + 1) _ _ _ _ (.ref hr) (.ref hr) e]
          exact EqAt.same _
        · have hpq := (R.sep n m _ _ _ _ hr hr' hnm).1
          simp only [eqAV, if_neg hnm] at e
          split at e
          · rename_i l m' hl hm'
            obtain ⟨a₁, d₁, hq, rfl, its, ⟨ep, hp⟩, hs⟩ := R.at hl
            rw [hr] at hq; cases hq
            obtain ⟨a₂, d₂, hq', rfl, its', ⟨ep', hp'⟩, hs'⟩ := R.at hm'
            rw [hr'] at hq'; cases hq'
            have hl := hs.length
            have hl' := hs'.length
            refine EqAt.of_refs hpq ?_
            split at e
            · rename_i hlen
              obtain ⟨f, h1, h2⟩ := eqZip_at e
              have := RcAt.lists (A := A) (e := f) (l := p) (b := q) (items := its.toArray) (items2 := its'.toArray) ⟨_, hp, rfl, _, rfl⟩ ⟨_, hp', rfl, _, rfl⟩ (by simp only [List.size_toArray, ← hl, ← hl', hlen]) hu0 fun j g1 g2 => by
                have k1 : j < l.length := by rw [hl]; simpa using g1
                have k2 : j < m'.length := by rw [hl']; simpa using g2
                obtain ⟨w1, e1, V1⟩ := (hs.get j).1 _ (List.getElem?_eq_getElem k1)
                obtain ⟨w2, e2, V2⟩ := (hs'.get j).1 _ (List.getElem?_eq_getElem k2)
                have f1 : its.toArray[j] = w1 := by
                  have := (List.getElem?_eq_some_iff.mp e1).2
                  simpa using this
                have f2 : its'.toArray[j] = w2 := by
                  have := (List.getElem?_eq_some_iff.mp e2).2
                  simpa using this
                rw [f1, f2]
                exact eqAV_at R d A.in1 _ _ _ _ _ hu' V1 V2 (h1 j k1 k2)
              rw [hlen, Nat.min_self, ← hlen] at h2
              simp only [List.size_toArray, ← hl, h2] at this
              exact this
            · rename_i hlen
              cases e
              exact RcAt.lists_lengths ⟨_, hp, rfl, _, rfl⟩ ⟨_, hp', rfl, _, rfl⟩ (by simp only [List.size_toArray, ← hl, ← hl']; simpa using hlen) hu0
          · cases e
      | _ => simp only [eqAV, reduceCtorEq] at e
    | _ => simp only [eqAV, reduceCtorEq] at e
end
end Mine

open PySem PySem.W PyProof.Rows
set_option Elab.async false
set_option maxRecDepth 100000
set_option maxHeartbeats 1000000
set_option linter.unusedVariables false
namespace Mine
section
variable {C : Cx} {k : Nat} {env : Env}
open PySem.SeqAt in
theorem items_at {ρ : Rho} {σ : St} {s : Shared} (R : Rep C env ρ σ s.heap) {d : Nat} {A : Around} {l m : List AV} {its its' : List Value} {r : Bool} (hu : A.units + d < cLine) (hs : VRels C.mC s.heap ρ l its) (hs' : VRels C.mC s.heap ρ m its') (e : eqZip (eqAV σ.hp d) l m = some r) :
    ∃ f : Nat → Bool, (∀ j (g1 : j < its.toArray.size) (g2 : j < its'.toArray.size), EqAt A s its.toArray[j] its'.toArray[j] (f j)) ∧ (List.range (min l.length m.length)).all f = r := by
  obtain ⟨f, h1, h2⟩ := eqZip_at e
  refine ⟨f, fun j g1 g2 => ?_, h2⟩
  have hl := hs.length
  have hl' := hs'.length
  have k1 : j < l.length := by rw [hl]; simpa using g1
  have k2 : j < m.length := by rw [hl']; simpa using g2
  obtain ⟨w1, e1, V1⟩ := (hs.get j).1 _ (List.getElem?_eq_getElem k1)
  obtain ⟨w2, e2, V2⟩ := (hs'.get j).1 _ (List.getElem?_eq_getElem k2)
  have f1 : its.toArray[j] = w1 := by
    have := (List.getElem?_eq_some_iff.mp e1).2
    simpa using this
  have f2 : its'.toArray[j] = w2 := by
    have := (List.getElem?_eq_some_iff.mp e2).2
    simpa using this
  rw [f1, f2]
  exact eqAV_at R d A _ _ _ _ _ hu V1 V2 (h1 j k1 k2)
open PySem.SeqAt in
theorem eqAV_rc {ρ : Rho} {σ : St} {s : Shared} (R : Rep C env ρ σ s.heap) (d : Nat) (A : Around) (a b : AV) (va vb : Value) (r : Bool) (hu : A.units + d < cLine) (x : VRel C.mC s.heap ρ a va) (y : VRel C.mC s.heap ρ b vb) (e : eqAV σ.hp d a b = some r) : RcAt A s va vb r ∧ RcNeAt A s va vb (!r) := by
  cases d with
  | zero => simp [eqAV] at e
  | succ d =>
    have hu' : A.in1.units + d < cLine := by show A.units + 1 + d < cLine; omega
    have hu0 : A.units < cLine := by omega
    cases x with
    | int i t =>
      cases y <;> simp only [eqAV, reduceCtorEq] at e
      rename_i j u
      obtain rfl : (i == j) = r := by simpa using e
      exact ⟨RcAt.int_int i t j u, RcNeAt.int_int i t j u⟩
    | @tup l p its ht hs =>
      cases y with
      | @tup m q its' ht' hs' =>
        simp only [eqAV] at e
        obtain ⟨z, hz, rfl⟩ := Option.map_eq_some_iff.mp e
        obtain ⟨f, h1, h2⟩ := items_at R hu' hs hs' hz
        have a1 := RcAt.tuples (A := A) (e := f) (l := p) (b := q) ⟨_, ht, rfl, _, rfl⟩ ⟨_, ht', rfl, _, rfl⟩ hu0 h1
        have a2 := RcNeAt.tuples (A := A) (e := f) (l := p) (b := q) ⟨_, ht, rfl, _, rfl⟩ ⟨_, ht', rfl, _, rfl⟩ hu0 h1
        simp only [List.size_toArray, ← hs.length, ← hs'.length, h2] at a1 a2
        exact ⟨a1, a2⟩
      | _ => simp only [eqAV, reduceCtorEq] at e
    | @ref n p dd hr =>
      cases y with
      | @ref m q dd' hr' =>
        simp only [eqAV] at e
        split at e
        · rename_i l m' hl hm'
          obtain ⟨a₁, d₁, hq, rfl, its, ⟨ep, hp⟩, hs⟩ := R.at hl
          rw [hr] at hq; cases hq
          obtain ⟨a₂, d₂, hq', rfl, its', ⟨ep', hp'⟩, hs'⟩ := R.at hm'
          rw [hr'] at hq'; cases hq'
          split at e
          · rename_i hnm
            subst hnm
            rw [hr] at hr'; cases hr'
            rw [hp] at hp'
            have ei : its = its' := by simpa using (show its = its' ∧ ep = ep' by simpa using hp').1
            subst ei
            cases e
            have a1 := RcAt.lists (A := A) (e := fun _ => true) (l := p) (b := p) (items := its.toArray) (items2 := its.toArray) ⟨_, hp, rfl, _, rfl⟩ ⟨_, hp, rfl, _, rfl⟩ rfl hu0 fun j _ _ => EqAt.same _
            have a2 := RcNeAt.lists (A := A) (e := fun _ => true) (l := p) (b := p) (items := its.toArray) (items2 := its.toArray) ⟨_, hp, rfl, _, rfl⟩ ⟨_, hp, rfl, _, rfl⟩ rfl hu0 fun j _ _ => EqAt.same _
            have e1 : (List.range its.toArray.size).all (fun _ => true) = true := by simp
            rw [e1] at a1 a2
            exact ⟨a1, a2⟩
          · split at e
            · rename_i hlen
              obtain ⟨f, h1, h2⟩ := items_at R hu' hs hs' e
              have a1 := RcAt.lists (A := A) (e := f) (l := p) (b := q) ⟨_, hp, rfl, _, rfl⟩ ⟨_, hp', rfl, _, rfl⟩ (by simp only [List.size_toArray, ← hs.length, ← hs'.length, hlen]) hu0 h1
              have a2 := RcNeAt.lists (A := A) (e := f) (l := p) (b := q) ⟨_, hp, rfl, _, rfl⟩ ⟨_, hp', rfl, _, rfl⟩ (by simp only [List.size_toArray, ← hs.length, ← hs'.length, hlen]) hu0 h1
              rw [hlen, Nat.min_self, ← hlen] at h2
              simp only [List.size_toArray, ← hs.length, h2] at a1 a2
              exact ⟨a1, a2⟩
            · rename_i hlen
              cases e
              have hz : (its.toArray.size != its'.toArray.size) = true := by simp only [List.size_toArray, ← hs.length, ← hs'.length]; simpa using hlen
              exact ⟨RcAt.lists_lengths ⟨_, hp, rfl, _, rfl⟩ ⟨_, hp', rfl, _, rfl⟩ hz hu0, RcNeAt.lists_lengths ⟨_, hp, rfl, _, rfl⟩ ⟨_, hp', rfl, _, rfl⟩ hz hu0⟩
        · cases e
      | _ => simp only [eqAV, reduceCtorEq] at e
    | _ => simp only [eqAV, reduceCtorEq] at e
def eqM (a b : AV) : M Bool := fun σ => (eqAV σ.hp 40 a b).map fun r => (r, σ)
def neM (a b : AV) : M Bool := fun σ => (eqAV σ.hp 40 a b).map fun r => (!r, σ)
theorem do_eq : DO2 C k env RC (compareOp .Eq) eqM := by
  intro A σ a b r σ' hA hm ρ s Q E va vb R Va Vb h
  obtain ⟨r', hr, e⟩ := Option.map_eq_some_iff.mp (show (eqAV σ.hp 40 a b).map (fun r => (r, σ)) = some (r, σ') from hm)
  cases e
  exact (eqAV_rc R 40 A a b va vb _ (by have := hA.2.2; unfold cLine; omega) Va Vb hr).1 _ _ E Q (h ρ _ _ R (Sp.refl _ _ _ _) rfl)
theorem do_ne : DO2 C k env RC (compareOp .NotEq) neM := by
  intro A σ a b r σ' hA hm ρ s Q E va vb R Va Vb h
  obtain ⟨r', hr, e⟩ := Option.map_eq_some_iff.mp (show (eqAV σ.hp 40 a b).map (fun r => (!r, σ)) = some (r, σ') from hm)
  cases e
  exact (eqAV_rc R 40 A a b va vb _ (by have := hA.2.2; unfold cLine; omega) Va Vb hr).2 _ _ E Q (h ρ _ _ R (Sp.refl _ _ _ _) rfl)
end
end Mine

open PySem PySem.W PyProof.Rows
set_option Elab.async false
set_option maxRecDepth 100000
set_option maxHeartbeats 1000000
set_option linter.unusedVariables false
namespace Mine
section
variable {C : Cx} {k : Nat} {env : Env}
theorem di_enum {x : Str} {np pos : Pos} {args : List PySem.Expr} {ms : M (List AV)} (hf : DV C k env (eval (.Name x np) env) (pure (.st (.type "enumerate")))) (hs : DL C k env (spliced (backTo pos (starEach args env))) ms)
    (hst : (backTo pos (starEach args env)).any (·.1) = false) : DI C k env (eval (.Call (.Name x np) args [] pos) env) (do let l ← ms; enumM l) := by
  intro A σ g σ' hA hm ρ s Q E R h
  obtain ⟨l, σ₁, h₁, hm⟩ := bind_some hm
  refine wpAny_Call_ofName (hf A σ _ σ hA rfl ρ s _ E R fun ρ₀ s₀ v₀ R₀ S₀ V₀ => ?_)
  cases V₀
  refine callWith_of (P := fun h => C.K.In h) (by rw [hst]; rfl) (keeper_ok (.inl rfl)) (evalArgs_any hst ?_)
  refine hs A σ l σ₁ hA h₁ ρ₀ s₀ _ E R₀ fun ρ₁ s₁ vs R₁ S₁ V₁ => ⟨fun a o e => R₁.base _ _ (C.X a o e), ?_⟩
  unfold enumM at hm
  split at hm
  · rename_i n
    split at hm
    · rename_i l' hl'
      cases hm
      cases V₁ with
      | cons y V₁ => cases V₁ with
        | nil => cases y with
          | @ref _ a d hr =>
            obtain ⟨a₂, d₂, hq, rfl, its, ⟨ep, hp⟩, W⟩ := R₁.at hl'
            rw [hr] at hq; cases hq
            refine call_enumerate_1 hp fun h' he hit hsz hk => wpAny_pyIter_enum (s := { s₁ with heap := h' }) he ?_
            have hsz1 : ∀ b ∈ [s₁.heap.objs.size + 1, s₁.heap.objs.size], s₁.heap.get? b = none := fun b hb => by
              cases e : s₁.heap.get? b with
              | none => rfl
              | some o =>
                have := Heap.lt_size e
                simp only [List.mem_cons, List.not_mem_nil, or_false] at hb
                rcases hb with rfl | rfl
                · exact absurd this (Nat.not_lt.mpr (Nat.le_succ _))
                · exact absurd this (Nat.lt_irrefl _)
            refine h ρ₁ { s₁ with heap := h' } _ [s₁.heap.objs.size + 1, s₁.heap.objs.size] (R₁.pushes hk) ((S₀.trans S₁).trans (Sp.pushes hk s₁.toks)) ?_ (fun b hb => not_live_of (S₀.trans S₁) (hsz1 b hb)) fun m a' d' hm' => ?_
            · exact ⟨_, _, _, rfl, by omega, hr, hit, he⟩
            · have := R₁.lt hm'
              simp only [List.mem_cons, List.not_mem_nil, or_false, not_or]
              omega
    · cases hm
  · cases hm
end
end Mine

open PySem PySem.W PyProof.Rows
set_option Elab.async false
set_option maxRecDepth 100000
set_option maxHeartbeats 1000000
set_option linter.unusedVariables false
namespace Mine
section
variable {C : Cx} {k : Nat} {env : Env}
/-! slices with bounds that aren't negative -/
def boundM (d : Nat) : AV → Option Nat
  | .none => some d
  | .int i => if 0 ≤ i then some i.toNat else none
  | _ => none
def sliceM (v lo hi : AV) : M AV := do
  let l ← (match v with
    | .ref n => (fun σ => match σ.hp[n]? with
      | some (.list l) => if l.length ≤ lim then some (l, σ) else none
      | _ => none : M (List AV))
    | _ => fun _ => none)
  match boundM 0 lo, boundM l.length hi with
  | some a, some b => allocM (.list ((l.drop a).take (b - a)))
  | _, _ => fun _ => none
theorem VRels.drop {mC : Addr} {h : Heap} {ρ : Rho} : ∀ {l : List AV} {vs : List Value} (n : Nat), VRels mC h ρ l vs → VRels mC h ρ (l.drop n) (vs.drop n)
  | _, _, 0, r => r
  | _, _, n + 1, .nil => .nil
  | _, _, n + 1, .cons _ r => VRels.drop n r
theorem VRels.take {mC : Addr} {h : Heap} {ρ : Rho} : ∀ {l : List AV} {vs : List Value} (n : Nat), VRels mC h ρ l vs → VRels mC h ρ (l.take n) (vs.take n)
  | _, _, 0, _ => .nil
  | _, _, n + 1, .nil => .nil
  | _, _, n + 1, .cons x r => .cons x (VRels.take n r)
theorem den_part_none : DV C k env (evalPart none env) (pure .none) := by
  intro A σ a σ' hA hm ρ s Q E R h
  obtain ⟨rfl, rfl⟩ := pure_some hm
  exact wpAny_pure (h ρ s _ R (Sp.refl _ _ _ _) .none)
theorem den_part_some {e : PySem.Expr} {m : M AV} (h : DV C k env (eval e env) m) : DV C k env (evalPart (some e) env) m := h
theorem pick_bounds {α : Type} (l : List α) (a b : Nat) : (l.drop (min a l.length)).take (min b l.length - min a l.length) = (l.drop a).take (b - a) := by
  apply List.ext_getElem?
  intro i
  simp only [List.getElem?_take, List.getElem?_drop]
  by_cases h1 : a ≤ l.length
  · rw [Nat.min_eq_left h1]
    by_cases h2 : b ≤ l.length
    · rw [Nat.min_eq_left h2]
    · rw [Nat.min_eq_right (by omega)]
      by_cases h3 : a + i < l.length
      · rw [if_pos (by omega), if_pos (by omega)]
      · rw [List.getElem?_eq_none (by omega)]; simp
  · rw [List.getElem?_eq_none (show l.length ≤ min a l.length + i by omega), List.getElem?_eq_none (show l.length ≤ a + i by omega)]
    simp
theorem slice_tmp {prog : Program} {w : World} {A : Around} {E : Value → Shared → Prop} {s : Shared} {env : Env} {value : PySem.Expr} {lower upper : Option PySem.Expr} {p pos : Pos} {Q : Value → Shared → Prop}
    (h : wpAny (model prog w) A (eval value env) (fun o s₁ => wpAny (model prog w) A (evalPart lower env) (fun vl s₂ => wpAny (model prog w) A (evalPart upper env) (fun vu s₃ =>
      ∃ l items lo hi, o = .ref l ∧ s₃.heap.IsList l items ∧ items.size ≤ sizeLine ∧ IsPart vl lo ∧ IsPart vu hi ∧
        Q (.ref (s₃.heap.objs.size + 1)) { s₃ with heap := (s₃.heap.push { cls := .type "slice", data := .fields #[vl, vu, .none] }).push { cls := .type "list", data := .seq (slicePick items lo hi none) } }) E s₂) E s₁) E s) :
    wpAny (model prog w) A (eval (.Subscript value (.Slice lower upper none p) pos) env) Q E s := by
  rw [eval_Subscript]
  refine wpAny_bind (wpAny_mono h (fun o s₁ h₁ => wpAny_bind (wpAny_holding (wpAny_Slice (wpAny_mono h₁ (fun vl s₂ h₂ => wpAny_mono h₂ (fun vu s₃ h₃ => ?_) fun _ _ e => e) fun _ _ e => e)))) fun _ _ e => e)
  obtain ⟨l, items, lo, hi, rfl, hl, hsz, pl, pu, hQ⟩ := h₃
  rw [evalPart_none]
  refine wpAny_pure (wpAny_bind (wpAny_standAt ?_))
  have hT := (hl.push { cls := .type "slice", data := .fields #[vl, vu, .none] }).typeIs (s := { s₃ with heap := s₃.heap.push { cls := .type "slice", data := .fields #[vl, vu, .none] } })
  have fin : wpAny (model prog w) A (operate [.ref s₃.heap.objs.size, .ref l] (getItem (.ref l) (.ref s₃.heap.objs.size))) (fun r s₄ => wpAny (model prog w) A (letTemporaryGo value (.ref l) r >>= fun _ => pure r) Q E s₄) E { s₃ with heap := s₃.heap.push { cls := .type "slice", data := .fields #[vl, vu, .none] } } := by
    refine wpAny_operating (wpAny_getItem_list_slice (hl.push _) (Heap.IsSliceOf.new ..) pl pu .none (by simp) ?_ hsz)
    refine wpAny_bind (wpAny_letTemporaryGo (wpAny_pure ?_))
    rw [Heap.size_push]
    exact hQ
  refine wpAny_bind ?_
  rw [getitemInPython_of_ne hT.not_modules]
  refine wpAny_bind (wpAny_specialOf hT list_getitem_lookup ?_)
  first
    | exact wpAny_pure (wpAny_bind fin)
    | exact wpAny_bind (wpAny_pure (wpAny_bind fin))
    | exact wpAny_bind fin
theorem den_slice {value : PySem.Expr} {lower upper : Option PySem.Expr} {p pos : Pos} {mv mlo mhi : M AV} (hv : DV C k env (eval value env) mv) (hlo : DV C k env (evalPart lower env) mlo) (hhi : DV C k env (evalPart upper env) mhi) :
    DV C k env (eval (.Subscript value (.Slice lower upper none p) pos) env) (do let v ← mv; let a ← mlo; let b ← mhi; sliceM v a b) := by
  intro A σ a σ' hA hm ρ s Q E R h
  obtain ⟨v, σ₁, h₁, hm⟩ := bind_some hm
  obtain ⟨x, σ₂, h₂, hm⟩ := bind_some hm
  obtain ⟨y, σ₃, h₃, hm⟩ := bind_some hm
  refine slice_tmp (hv A σ v σ₁ hA h₁ ρ s _ E R fun ρ₁ s₁ vv R₁ S₁ V₁ => ?_)
  refine hlo A σ₁ x σ₂ hA h₂ ρ₁ s₁ _ E R₁ fun ρ₂ s₂ vx R₂ S₂ V₂ => ?_
  refine hhi A σ₂ y σ₃ hA h₃ ρ₂ s₂ _ E R₂ fun ρ₃ s₃ vy R₃ S₃ V₃ => ?_
  have V₁' := (V₁.step S₂).step S₃
  have V₂' := V₂.step S₃
  unfold sliceM at hm
  obtain ⟨l, σ₄, h₄, hm⟩ := bind_some hm
  cases v with
  | ref n =>
    replace h₄ : (match σ₃.hp[n]? with
      | some (.list l) => if l.length ≤ lim then some (l, σ₃) else none
      | _ => none) = some (l, σ₄) := h₄
    split at h₄
    · rename_i l' hl
      split at h₄
      · rename_i hlen
        cases h₄
        cases V₁' with
        | @ref _ ad dd hr =>
          obtain ⟨a₂, d₂, hq, rfl, its, ⟨ep, hp⟩, W⟩ := R₃.at hl
          rw [hr] at hq; cases hq
          have hwl := W.length
          cases hi : boundM 0 x with
          | none => simp only [hi] at hm; cases hm
          | some i =>
          cases hj : boundM l.length y with
          | none => simp only [hi, hj] at hm; cases hm
          | some j =>
            simp only [hi, hj] at hm
            cases hm
            have Ex : ∃ lo : Option Int, IsPart vx lo ∧ lo.elim 0 (clipAt its.length) = min i its.length := by
              cases x with
              | none => simp only [boundM] at hi; cases V₂'; cases hi; exact ⟨none, .none, by simp⟩
              | int z =>
                simp only [boundM] at hi
                split at hi
                · rename_i hz
                  cases hi
                  cases V₂' with
                  | int _ t =>
                    refine ⟨some z, .int z t, ?_⟩
                    have := clipAt_nat its.length z.toNat
                    rw [Int.toNat_of_nonneg hz] at this
                    exact this
                · cases hi
              | _ => simp only [boundM, reduceCtorEq] at hi
            have Ey : ∃ hi : Option Int, IsPart vy hi ∧ hi.elim its.length (clipAt its.length) = min j its.length := by
              cases y with
              | none => simp only [boundM] at hj; cases V₃; cases hj; exact ⟨none, .none, by simp [hwl]⟩
              | int z =>
                simp only [boundM] at hj
                split at hj
                · rename_i hz
                  cases hj
                  cases V₃ with
                  | int _ t =>
                    refine ⟨some z, .int z t, ?_⟩
                    have := clipAt_nat its.length z.toNat
                    rw [Int.toNat_of_nonneg hz] at this
                    exact this
                · cases hj
              | _ => simp only [boundM, reduceCtorEq] at hj
            obtain ⟨lo, plo, elo⟩ := Ex
            obtain ⟨hi', phi, ehi⟩ := Ey
            refine ⟨ad, its.toArray, lo, hi', rfl, ⟨_, hp, rfl, _, rfl⟩, by rw [List.size_toArray, ← hwl]; exact Nat.le_trans hlen lim_line, plo, phi, ?_⟩
            have hpk : slicePick its.toArray lo hi' none = ((its.drop i).take (j - i)).toArray := by
              rw [slicePick_plain]
              simp only [List.size_toArray, elo, ehi]
              rw [pick_bounds]
            rw [hpk]
            have hk : ∀ b o, s₃.heap.get? b = some o → ((s₃.heap.push { cls := .type "slice", data := .fields #[vx, vy, .none] }).push { cls := .type "list", data := .seq ((its.drop i).take (j - i)).toArray }).get? b = some o := fun b o e => Heap.get?_push_of_some _ (Heap.get?_push_of_some _ e)
            have hsz : (s₃.heap.push { cls := .type "slice", data := .fields #[vx, vy, .none] }).objs.size = s₃.heap.objs.size + 1 := Heap.size_push ..
            refine h _ _ _ (R₃.allocG (a₀ := s₃.heap.objs.size + 1) (d₀ := s₃.heap.objs.size + 1) (.list ((l.drop i).take (j - i))) hk (Nat.le_succ _) (Nat.le_succ _) R₃.lsize ⟨rfl, _, ⟨0, by rw [← hsz]; exact Heap.get?_push_size _ rfl⟩, ((W.drop i).take (j - i)).mono (fun b o e _ => hk b o e) fun n q e => by rw [List.getElem?_append_left (List.getElem?_eq_some_iff.mp e).1]; exact e⟩) ((S₁.trans (S₂.trans S₃)).trans (Sp.allocG (s := s₃) _ _ hk (Nat.le_succ _) (Nat.le_succ _))) (.ref (new_ref R₃))
      · cases h₄
    · cases h₄
  | _ => cases h₄
end
end Mine

open PySem PySem.W PyProof.Rows
set_option Elab.async false
set_option maxRecDepth 100000
set_option maxHeartbeats 1000000
set_option linter.unusedVariables false
namespace Mine
section
variable {C : Cx} {k : Nat} {env : Env}
/-- a locked object is nobody's to write -/
theorem lock_foot {ρ : Rho} {σ : St} {h : Heap} (R : Rep C env ρ σ h) {n b d : Nat} (hr : ρ[n]? = some (b, d)) (hl : σ.hp[n]? = some .lock) : ¬ foot ρ σ b := by
  rintro ⟨m, a', d', hm, hne, hb⟩
  by_cases e : m = n
  · subst e; exact hne hl
  · have := R.sep n m b d a' d' hr hm (fun q => e q.symm)
    rcases hb with rfl | rfl
    · exact this.1 rfl
    · exact this.2.1 rfl
/-- a loop whose items are fixed, over an iterator of any kind -/
theorem turns_loop {target : PySem.Expr} {body : List Stmt} {st : AV → M Unit} {mb : M Fl} (hst : DO1 C k env RU (assign target env) st) (hb : DS C k env (execs body env) mb)
    {A : Around} {σ : St} {a : Fl} {σ' : St} {l : List AV} {fuel : Nat} {it : Nat} {fp wr : List Nat} {P Md : Nat → Value → Heap → Prop} {St : Nat → Heap → Prop}
    {ρ : Rho} {s : Shared} {R' : Result → Shared → Prop} {ρ₀ : Rho} {σ₀ : Mine.St} {s₀ : Shared}
    (hA : AOk k A) (hm : forM' fuel (.fixed l) st mb σ = some (a, σ')) (K : KTurns C.prog C.w A target it fp wr l.length P Md St)
    (R : Rep C env ρ σ s.heap) (S : Sp env.locals ρ₀ σ₀ s₀ ρ σ s) (R₀ : Rep C env ρ₀ σ₀ s₀.heap) (h0 : St 0 s.heap) (hnew : ∀ b ∈ wr, s₀.heap.get? b = none)
    (hr : ∀ (m a d : Nat), ρ[m]? = some (a, d) → a ∉ wr ∧ d ∉ wr) (hlv : ∀ i h, St i h → ∀ b ∈ wr, ∃ o, h.get? b = some o ∧ ¬ Frozen o)
    (hfp : ∀ b ∈ fp, b ∈ wr ∨ ∃ n d : Nat, ρ[n]? = some (b, d) ∧ σ.hp[n]? = some .lock)
    (hP : ∀ i v (h : Heap) (ρ' : Rho), (∀ b o, s.heap.get? b = some o → Frozen o → h.get? b = some o) → (∀ (n : Nat) q, ρ[n]? = some q → ρ'[n]? = some q) → P i v h → ∀ a, l[i]? = some a → VRel C.mC h ρ' a v)
    (h : ∀ ρ' s' v, Rep C env ρ' σ' s'.heap → Sp env.locals ρ₀ σ₀ s₀ ρ' σ' s' → FRel C.mC s'.heap ρ' a v → (∀ (n : Nat) q, ρ[n]? = some q → ρ'[n]? = some q) → (∀ b o, s.heap.get? b = some o → Frozen o → s'.heap.get? b = some o) →
      (∀ b ∈ fp, b ∉ wr → ∀ o, s.heap.get? b = some o → s'.heap.get? b = some o) → R' (.ok v) s') :
    codeAny (model C.prog C.w) A (.forLoop target (.ref it) body [] env) R' s := by
  have hL : env.locals ∉ wr := fun q => by
    obtain ⟨m, ⟨o, es, ep, p, _⟩, _⟩ := R₀.ns
    rw [hnew _ q] at p; cases p
  have hh0 : ∀ b ∈ wr, C.h₀.get? b = none := fun b hb => by
    cases e : C.h₀.get? b with
    | none => rfl
    | some o => have := R₀.base b o e; rw [hnew b hb] at this; cases this
  refine codeAny_forLoop_any (fun n s₁ => ∃ σ₁ ρ₁ i, forM' n (.fixed (l.drop i)) st mb σ₁ = some (a, σ') ∧ Rep C env ρ₁ σ₁ s₁.heap ∧ Sp env.locals ρ₀ σ₀ s₀ ρ₁ σ₁ s₁ ∧ St i s₁.heap ∧ i ≤ l.length ∧ (∀ (m a d : Nat), ρ₁[m]? = some (a, d) → a ∉ wr ∧ d ∉ wr)
      ∧ (∀ b ∈ fp, b ∈ wr ∨ ∃ n d : Nat, ρ₁[n]? = some (b, d) ∧ σ₁.hp[n]? = some .lock) ∧ (∀ (n : Nat) q, ρ[n]? = some q → ρ₁[n]? = some q) ∧ (∀ b o, s.heap.get? b = some o → Frozen o → s₁.heap.get? b = some o)
      ∧ (∀ b ∈ fp, b ∉ wr → ∀ o, s.heap.get? b = some o → s₁.heap.get? b = some o))
    (fun n s₁ hI => ?_) fuel ⟨σ, ρ, 0, by simpa using hm, R, S, h0, Nat.zero_le _, hr, hfp, fun _ _ e => e, fun _ _ e _ => e, fun _ _ _ _ e => e⟩
  obtain ⟨σ₁, ρ₁, i, hm, R₁, S₁, I₁, hi, hr₁, hf₁, he₁, hz₁, hkp₁⟩ := hI
  have hnf₁ : ∀ b ∈ wr, ∀ o, s₁.heap.get? b = some o → ¬ Frozen o := fun b hb o e => by
    obtain ⟨o', e', hn⟩ := hlv i _ I₁ b hb
    rw [e] at e'; cases e'; exact hn
  cases n with
  | zero => cases hm
  | succ n =>
    replace hm : (do
      let r ← nxtM (.fixed (l.drop i))
      match r with
      | none => pure .next
      | some (a, g') => do
        st a
        let f ← mb
        match f with
        | .next => forM' n g' st mb
        | .cont => forM' n g' st mb
        | .brk => pure .next
        | .ret v => pure (.ret v) : M Fl) σ₁ = some (a, σ') := hm
    obtain ⟨r, σ₂, h₂, hm⟩ := bind_some hm
    by_cases hlt : i < l.length
    · have hd : l.drop i = l[i] :: l.drop (i + 1) := List.drop_eq_getElem_cons hlt
      rw [hd] at h₂
      obtain ⟨rfl, rfl⟩ := pure_some h₂
      dsimp only at hm
      refine K.item i s₁ _ _ hlt I₁ fun v h₂ tk₂ hMd hk₂ => ?_
      refine K.go i v { s₁ with heap := h₂, toks := tk₂ } _ _ hMd fun h₃ hP₃ I₃ hk₃ => ?_
      have hk : ∀ b o, b ∉ wr → s₁.heap.get? b = some o → h₃.get? b = some o := fun b o hb e => hk₃ b o hb (hk₂ b o hb e)
      have R₃ : Rep C env ρ₁ σ₁ h₃ := R₁.its hk hL hh0 hr₁ hnf₁
      have S₃ : Sp env.locals ρ₀ σ₀ s₀ ρ₁ σ₁ { s₁ with heap := h₃, toks := tk₂ } := S₁.its hnew hk rfl rfl
      have hfz₃ : ∀ b o, s.heap.get? b = some o → Frozen o → h₃.get? b = some o := fun b o e hf => hk b o (fun hb => hnf₁ b hb o (hz₁ b o e hf) hf) (hz₁ b o e hf)
      have V₃ : VRel C.mC h₃ ρ₁ l[i] v := hP i v h₃ ρ₁ hfz₃ he₁ hP₃ l[i] (by simp [hlt])
      obtain ⟨u, σ₄, h₄, hm⟩ := bind_some hm
      refine hst A σ₁ l[i] u σ₄ hA h₄ ρ₁ { s₁ with heap := h₃, toks := tk₂ } _ _ v R₃ V₃ fun ρ₄ s₄ _ R₄ S₄ _ => ?_
      obtain ⟨f, σ₅, h₅, hm⟩ := bind_some hm
      refine hb A σ₄ f σ₅ hA h₅ ρ₄ s₄ _ _ R₄ fun ρ₅ s₅ fv R₅ S₅ V₅ => ?_
      have S45 := S₄.trans S₅
      have hfoot : ∀ b ∈ wr, ¬ foot ρ₁ σ₁ b := by
        rintro b hb ⟨m, a', d', hm', _, hbd⟩
        have := hr₁ m a' d' hm'
        rcases hbd with rfl | rfl
        · exact this.1 hb
        · exact this.2 hb
      have hfpk : ∀ b ∈ fp, ∀ o, h₃.get? b = some o → s₅.heap.get? b = some o := fun b hb o e => by
        rcases hf₁ b hb with hw | ⟨n', d', h1, h2⟩
        · exact S45.keep b o e (hfoot b hw) (fun q => hL (q ▸ hw))
        · exact S45.keep b o e (lock_foot R₃ h1 h2) (R₃.fresh _ _ _ h1).2.2.1
      have I₅ : St (i + 1) s₅.heap := K.frame _ _ _ I₃ hfpk
      have hr₅ : ∀ (m a d : Nat), ρ₅[m]? = some (a, d) → a ∉ wr ∧ d ∉ wr := fun m a' d' hm' => by
        by_cases hlt : m < ρ₁.length
        · have e1 : ρ₁[m]? = some ρ₁[m] := List.getElem?_eq_getElem hlt
          have e2 := S45.ext m _ e1
          rw [hm'] at e2
          exact hr₁ m a' d' (by rw [e1, ← e2])
        · have hnw := S45.new m a' d' (Nat.le_of_not_lt hlt) hm'
          rw [show (Shared.heap { s₁ with heap := h₃, toks := tk₂ }) = h₃ from rfl] at hnw
          refine ⟨fun q => ?_, fun q => ?_⟩
          · obtain ⟨o, ho, _⟩ := hlv _ _ I₃ _ q
            rw [hnw.1] at ho; cases ho
          · obtain ⟨o, ho, _⟩ := hlv _ _ I₃ _ q
            rw [hnw.2] at ho; cases ho
      have hf₅ : ∀ b ∈ fp, b ∈ wr ∨ ∃ n d : Nat, ρ₅[n]? = some (b, d) ∧ σ₅.hp[n]? = some .lock := fun b hb => by
        rcases hf₁ b hb with hw | ⟨n', d', h1, h2⟩
        · exact .inl hw
        · exact .inr ⟨n', d', S45.ext _ _ h1, S45.lock _ h2⟩
      have he₅ : ∀ (n : Nat) q, ρ[n]? = some q → ρ₅[n]? = some q := fun n q e => S45.ext _ _ (he₁ n q e)
      have hz₅ : ∀ b o, s.heap.get? b = some o → Frozen o → s₅.heap.get? b = some o := fun b o e hf => S45.frz b o (hfz₃ b o e hf) hf
      have hkp₅ : ∀ b ∈ fp, b ∉ wr → ∀ o, s.heap.get? b = some o → s₅.heap.get? b = some o := fun b hb hw o e => hfpk b hb o (hk b o hw (hkp₁ b hb hw o e))
      cases V₅ with
      | next => exact ⟨n, Nat.lt_succ_self n, σ₅, ρ₅, i + 1, hm, R₅, S₃.trans S45, I₅, hlt, hr₅, hf₅, he₅, hz₅, hkp₅⟩
      | cont => exact ⟨n, Nat.lt_succ_self n, σ₅, ρ₅, i + 1, hm, R₅, S₃.trans S45, I₅, hlt, hr₅, hf₅, he₅, hz₅, hkp₅⟩
      | brk => obtain ⟨rfl, rfl⟩ := pure_some hm; exact h ρ₅ s₅ _ R₅ (S₃.trans S45) .next he₅ hz₅ hkp₅
      | ret V => obtain ⟨rfl, rfl⟩ := pure_some hm; exact h ρ₅ s₅ _ R₅ (S₃.trans S45) (.ret V) he₅ hz₅ hkp₅
    · obtain rfl : i = l.length := by omega
      rw [List.drop_length] at h₂
      obtain ⟨rfl, rfl⟩ := pure_some h₂
      obtain ⟨rfl, rfl⟩ := pure_some hm
      refine K.done s₁ _ _ I₁ fun h₂ tk₂ hk₂ => ?_
      have R₂ : Rep C env ρ₁ σ₁ h₂ := R₁.its hk₂ hL hh0 hr₁ hnf₁
      have S₂ : Sp env.locals ρ₀ σ₀ s₀ ρ₁ σ₁ { s₁ with heap := h₂, toks := tk₂ } := S₁.its hnew hk₂ rfl rfl
      exact wpAny_execs_nil (h ρ₁ _ _ R₂ S₂ .next he₁ (fun b o e hf => hk₂ b o (fun hb => hnf₁ b hb o (hz₁ b o e hf) hf) (hz₁ b o e hf)) (fun b hb hw o e => hk₂ b o hw (hkp₁ b hb hw o e)))
end
end Mine

open PySem PySem.W PyProof.Rows
set_option Elab.async false
set_option maxRecDepth 100000
set_option maxHeartbeats 1000000
set_option linter.unusedVariables false
namespace Mine
section
variable {C : Cx} {k : Nat} {env : Env}
theorem Sp.unlock {L : Addr} {ρ₀ ρ' : Rho} {σ₀ σ' : St} {s₀ s' : Shared} (S : Sp L ρ₀ σ₀ s₀ ρ' σ' s') {n : Nat} (o : AO) (hn : σ₀.hp[n]? ≠ some .lock) : Sp L ρ₀ σ₀ s₀ ρ' { σ' with hp := σ'.hp.set n o } s' where
  ext := S.ext
  keep := S.keep
  frz := S.frz
  new := S.new
  live := S.live
  lock := fun m h => by
    by_cases e : n = m
    · subst e; exact absurd h hn
    · show (σ'.hp.set n o)[m]? = _
      rw [List.getElem?_set_ne e]; exact S.lock m h
  os := S.os
  gens := S.gens
theorem Rep.unlock {ρ : Rho} {σ : St} {h : Heap} (R : Rep C env ρ σ h) {n a d : Nat} {o : AO} (hq : ρ[n]? = some (a, d)) (hx : ORel C h ρ o (a, d)) : Rep C env ρ { σ with hp := σ.hp.set n o } h := by
  obtain ⟨m, hm, hsl⟩ := R.ns
  exact R.set' hq (.inl rfl) (fun _ _ _ _ e => e) (hx.notFrozen a (.inl rfl)) hm hm hsl hx
theorem lock_turns {target : PySem.Expr} {body : List Stmt} {st : AV → M Unit} {mb : M Fl} (hst : DO1 C k env RU (assign target env) st) (hb : DS C k env (execs body env) mb)
    {A : Around} {σ₁ : Mine.St} {n : Nat} {o : AO} {l : List AV} {fl : Fl} {σ₂ : Mine.St} {fuel : Nat} (hA : AOk k A) (ho : σ₁.hp[n]? = some o) (hl : o ≠ .lock)
    (hm : forM' fuel (.fixed l) st mb { σ₁ with hp := σ₁.hp.set n .lock } = some (fl, σ₂)) {ρ₀ ρ₁ : Rho} {σ₀ : Mine.St} {s₀ s₁ : Shared} {d : Nat} (hq : ρ₁[n]? = some (d, d)) (hx : ORel C s₁.heap ρ₁ o (d, d))
    (R₁ : Rep C env ρ₁ σ₁ s₁.heap) (S₁ : Sp env.locals ρ₀ σ₀ s₀ ρ₁ σ₁ s₁) (R₀ : Rep C env ρ₀ σ₀ s₀.heap) {h₂ : Heap} {t₂ : Nat} (hk₂ : ∀ b o, s₁.heap.get? b = some o → h₂.get? b = some o) {it : Nat} (hit : s₁.heap.get? it = none)
    {P Md : Nat → Value → Heap → Prop} {St : Nat → Heap → Prop} (K : KTurns C.prog C.w A target it [it, d] [it] l.length P Md St) (h0 : St 0 h₂) (hlv : ∀ i h, St i h → ∃ o, h.get? it = some o ∧ ¬ Frozen o)
    (hP : ∀ i v (h : Heap) (ρ' : Rho), (∀ b o, s₁.heap.get? b = some o → Frozen o → h.get? b = some o) → (∀ (n : Nat) q, ρ₁[n]? = some q → ρ'[n]? = some q) → P i v h → ∀ a, l[i]? = some a → VRel C.mC h ρ' a v) {R' : Result → Shared → Prop}
    (h : ∀ ρ' s' v, Rep C env ρ' { σ₂ with hp := σ₂.hp.set n o } s'.heap → Sp env.locals ρ₀ σ₀ s₀ ρ' { σ₂ with hp := σ₂.hp.set n o } s' → FRel C.mC s'.heap ρ' fl v → R' (.ok v) s') :
    codeAny (model C.prog C.w) A (.forLoop target (.ref it) body [] env) R' { s₁ with heap := h₂, toks := t₂ } := by
  have hfz := hx.notFrozen d (.inl rfl)
  have hdl : ∃ ob, s₁.heap.get? d = some ob := by
    have := (R₁.lt hq).1
    cases e : s₁.heap.get? d with
    | some ob => exact ⟨ob, rfl⟩
    | none =>
      cases o with
      | list l => obtain ⟨_, its, ⟨n, p⟩, v⟩ := hx; rw [e] at p; cases p
      | dict l => obtain ⟨_, kvs, ⟨o, es, ep, p, r⟩, q, v⟩ := hx; rw [e] at p; cases p
      | set l => obtain ⟨_, ⟨m, o, es, ep, t, p, r⟩⟩ := hx; rw [e] at p; cases p
      | inst l => exact absurd rfl hx.1
      | cell v => obtain ⟨_, w, ⟨o, p, r⟩, q⟩ := hx; rw [e] at p; cases p
      | lock => exact absurd rfl hl
  obtain ⟨ob, hob⟩ := hdl
  have hlk : ORel C s₁.heap ρ₁ .lock (d, d) := ⟨⟨ob, hob, hfz ob hob⟩, ob, hob, hfz ob hob⟩
  obtain ⟨RL, SL⟩ := R₁.turn (o' := .lock) hq ho hl (Heap.SameBut.refl d s₁.heap) hlk s₁.toks
  have R₂ : Rep C env ρ₁ { σ₁ with hp := σ₁.hp.set n .lock } h₂ := RL.pushes hk₂
  have S₂ : Sp env.locals ρ₀ σ₀ s₀ ρ₁ { σ₁ with hp := σ₁.hp.set n .lock } { s₁ with heap := h₂, toks := t₂ } := (S₁.trans SL).trans (Sp.pushes (s := { s₁ with heap := s₁.heap, toks := s₁.toks }) hk₂ t₂)
  have hlen : n < σ₁.hp.length := (List.getElem?_eq_some_iff.mp ho).1
  have hdne : d ≠ it := fun e => by rw [e, hit] at hob; cases hob
  refine turns_loop (s := { s₁ with heap := h₂, toks := t₂ }) hst hb hA hm K R₂ S₂ R₀ h0 (fun b hb => ?_) (fun m a' d' e => ?_) (fun i h hs b hb => ?_) (fun b hb => ?_) (fun i v h ρ' hz he hp a e => ?_) fun ρ' s' v R' S' V' he hz hkp => ?_
  · obtain rfl := List.mem_singleton.mp hb
    exact not_live_of S₁ hit
  · have h1 := R₁.lt e
    have hlive : (∃ o, s₁.heap.get? a' = some o) ∧ ∃ o, s₁.heap.get? d' = some o := by
      obtain ⟨oo, _, x⟩ := R₁.obj e
      cases oo with
      | list l => obtain ⟨rfl, its, ⟨n, p⟩, v⟩ := x; exact ⟨⟨_, p⟩, ⟨_, p⟩⟩
      | dict l => obtain ⟨rfl, kvs, ⟨o, es, ep, p, r⟩, q, v⟩ := x; exact ⟨⟨_, p⟩, ⟨_, p⟩⟩
      | set l => obtain ⟨rfl, ⟨m, o, es, ep, t, p, r⟩⟩ := x; exact ⟨⟨_, p⟩, ⟨_, p⟩⟩
      | inst l => obtain ⟨e, p, es, n, q, k, r⟩ := x; exact ⟨⟨_, p⟩, ⟨_, q⟩⟩
      | cell v => obtain ⟨rfl, w, ⟨o, p, r⟩, q⟩ := x; exact ⟨⟨_, p⟩, ⟨_, p⟩⟩
      | lock => obtain ⟨⟨o, p, _⟩, o', q, _⟩ := x; exact ⟨⟨_, p⟩, ⟨_, q⟩⟩
    simp only [List.mem_singleton]
    refine ⟨fun q => ?_, fun q => ?_⟩
    · obtain ⟨o, p⟩ := hlive.1; rw [q, hit] at p; cases p
    · obtain ⟨o, p⟩ := hlive.2; rw [q, hit] at p; cases p
  · obtain rfl := List.mem_singleton.mp hb
    exact hlv i h hs
  · rcases List.mem_cons.mp hb with rfl | hb
    · exact .inl (by simp)
    · obtain rfl := List.mem_singleton.mp hb
      exact .inr ⟨n, b, hq, by show (σ₁.hp.set n .lock)[n]? = _; rw [List.getElem?_set_self hlen]⟩
  · exact hP i v h ρ' (fun b o e hf => hz b o (hk₂ b o e) hf) he hp a e
  · have hxx : ORel C s'.heap ρ' o (d, d) := hx.keep (fun b o e hf => hz b o (hk₂ b o e) hf) he (fun o e => hkp d (by simp) (by simpa using hdne) o (hk₂ d o e)) (fun o e => hkp d (by simp) (by simpa using hdne) o (hk₂ d o e))
    have hn0 : σ₀.hp[n]? ≠ some .lock := fun e => by have := S₁.lock n e; rw [ho] at this; cases this; exact hl rfl
    exact h ρ' s' v (R'.unlock (he _ _ hq) hxx) (S'.unlock o hn0) V'
end
end Mine

open PySem PySem.W PyProof.Rows
set_option Elab.async false
set_option maxRecDepth 100000
set_option maxHeartbeats 1000000
set_option linter.unusedVariables false
namespace Mine
section
variable {C : Cx} {k : Nat} {env : Env}
/-- a call of a method of a builtin with no arguments -/
theorem cw_self {id : String} {v : Value} {pos : Pos} {A : Around} {s : Shared} {Q : Value → Shared → Prop} {E : Value → Shared → Prop} (X : C.K.In s.heap)
    (h : wpAny (model C.prog C.w) A (call (.builtin id) [v]) Q E s) : wpAny (model C.prog C.w) A (callWith pos (.builtin id) [v] (backTo pos (starEach [] env)) []) Q E s := by
  refine callWith_of (P := fun h => C.K.In h) rfl (keeper_ok (K := C.K) (.inl rfl)) (evalArgs_any (by rfl) ?_)
  exact wpAny_items_nil ⟨X, h⟩
/-- the loop over a dict's items: the dict stands locked meanwhile -/
def lockM (a : AV) (m : List (Int × AV) → M Fl) : M Fl := match a with
  | .ref n => fun σ => match σ.hp[n]? with
    | some (.dict l) => (match m l { σ with hp := σ.hp.set n .lock } with
      | some (f, σ') => some (f, { σ' with hp := σ'.hp.set n (.dict l) })
      | none => none)
    | _ => none
  | _ => fun _ => none
theorem ds_for_keys {target o : PySem.Expr} {apos ipos pos : Pos} {body : List Stmt} {st : AV → M Unit} {mo : M AV} {mb : M Fl} (ho : DV C k env (eval o env) mo) (hst : DO1 C k env RU (assign target env) st) (hb : DS C k env (execs body env) mb)
    (hbase : attributeBase o "keys" env (eval o env) = eval o env) (hline : (apos.endLine == ipos.line) = true) (hfs : ∀ x, foldedSetIterable (.Call (.Attribute o "keys" apos) [] [] ipos) env x = pure x) :
    DS C k env (exec (.For target (.Call (.Attribute o "keys" apos) [] [] ipos) body [] pos) env) (do let a ← mo; lockM a fun l => forM' fuel (.fixed (l.map fun kv => .int kv.1)) st mb) := by
  intro A σ a σ' hA hm ρ s Q E R h
  obtain ⟨x, σ₁, h₁, hm⟩ := bind_some hm
  refine wpAny_For ?_ hfs
  refine wpAny_Call_method hbase (by rfl) hline PySem.F.plainAttrs_dict PySem.F.slot_dict_keys PySem.F.type_dict_keys (ho A σ x σ₁ hA h₁ ρ s _ E R fun ρ₁ s₁ v₁ R₁ S₁ V₁ => ?_)
  unfold lockM at hm
  split at hm
  · rename_i n
    split at hm
    · rename_i l hl
      split at hm
      · rename_i fl σ₂ hrun
        cases hm
        cases V₁ with
        | @ref _ d₁ d₂ hr =>
          obtain ⟨d, d', hq, rfl, kvs, hD, hP⟩ := R₁.at hl
          rw [hr] at hq; cases hq
          obtain ⟨oo, hox, hoc, hod, _⟩ := dict_obj hD
          refine ⟨⟨_, hox, hoc⟩, fun a e => by injection e with e; subst e; exact ⟨_, hox, hod⟩, ?_⟩
          refine cw_self (fun a o e => R₁.base _ _ (C.X a o e)) ?_
          have hsys := R₁.notSys hr
          refine call_meetsIn PySem.F.slot_dict_keys hD.typeIs PySem.F.entry_dict_keys (PySem.F.args_dict_keys_1 _) (kdl_meets_keys (intKind C.prog C.w) d₁ hsys) ⟨⟨kvs, hD⟩, ?_⟩
          obtain ⟨ep, hat⟩ := hD.dictAt
          refine kdl_pyIter_keys ⟨_, Heap.get?_push_size _ rfl, rfl, rfl⟩ (hat.push _) ?_
          have hlen := hP.length
          have hW := KTurns.ofWalks (target := target) (Walks.dictKeys (knd := intKind C.prog C.w) hA.1 (s₁.heap.objs.size + 1) d₁ (Nat.ne_of_lt (Nat.lt_succ_of_lt hat.lt_size)) kvs ep) fun i v s Q E st q => letGo_keyiter st.1 q
          have hsz : (s₁.heap.push { cls := .type "dict_keys", data := .fields #[.ref d₁] }).objs.size = s₁.heap.objs.size + 1 := Heap.size_push ..
          rw [show kvs.length = (l.map fun kv => AV.int kv.1).length by rw [List.length_map, hlen]] at hW
          dsimp only
          rw [hsz]
          refine lock_turns (R' := fun r s' => match r with | .ok f => Q f s' | .error e => cameBackBy (model C.prog C.w) A env E e s') (h₂ := (s₁.heap.push { cls := .type "dict_keys", data := .fields #[.ref d₁] }).push { cls := .type "dict_keyiterator", data := .fields #[.ref d₁, .int 0 0, .int kvs.length 0, .int ep 0] }) (it := s₁.heap.objs.size + 1) hst hb hA hl (by simp) hrun hr ⟨rfl, kvs, hD, hP⟩ R₁ S₁ R
            (fun b o e => Heap.get?_push_of_some _ (Heap.get?_push_of_some _ e)) ?_ hW ⟨?_, (hat.push _).push _⟩ ?_ ?_ fun ρ' s' v R' S' V' => h ρ' s' v R' S' V'
          · cases e : s₁.heap.get? (s₁.heap.objs.size + 1) with
            | none => rfl
            | some o => exact absurd (Heap.lt_size e) (Nat.not_lt_of_le (Nat.le_succ _))
          · have hg : ((s₁.heap.push { cls := .type "dict_keys", data := .fields #[.ref d₁] }).push { cls := .type "dict_keyiterator", data := .fields #[.ref d₁, .int 0 0, .int kvs.length 0, .int ep 0] }).get? (s₁.heap.push { cls := .type "dict_keys", data := .fields #[.ref d₁] }).objs.size = some { cls := .type "dict_keyiterator", data := .fields #[.ref d₁, .int 0 0, .int kvs.length 0, .int ep 0] } := Heap.get?_push_size _ rfl
            rw [hsz] at hg
            refine ⟨_, hg, rfl, ?_⟩
            rw [List.length_map, hlen]; rfl
          · rintro i h ⟨⟨o, p, hc, hd⟩, _⟩
            exact ⟨o, p, by simp [Frozen, hc, hd]⟩
          · rintro i v h ρ' hz he ⟨kk, x, hx, hv⟩ a ha
            rw [List.getElem?_map] at ha
            obtain ⟨kv, hkv, rfl⟩ := Option.map_eq_some_iff.mp ha
            have e1 : (l.map (·.1))[i]? = (kvs.map (·.1))[i]? := by rw [hP.1]
            rw [List.getElem?_map, List.getElem?_map, hkv, hx] at e1
            have e2 : kv.1 = kk := by simpa using e1
            obtain ⟨t, rfl⟩ := Value.isInt_shape (show Value.isInt kk v = true from hv)
            rw [e2]; exact .int _ _
      · cases hm
    · cases hm
  · cases hm
theorem ds_for_items {elts : List PySem.Expr} {x1 : Nat} {px : Pos} {o : PySem.Expr} {apos ipos pos : Pos} {body : List Stmt} {st : AV → M Unit} {mo : M AV} {mb : M Fl} (ho : DV C k env (eval o env) mo) (hst : DO1 C k env RU (assign (.Tuple elts x1 px) env) st) (hb : DS C k env (execs body env) mb)
    (hbase : attributeBase o "items" env (eval o env) = eval o env) (hline : (apos.endLine == ipos.line) = true) (hfs : ∀ x, foldedSetIterable (.Call (.Attribute o "items" apos) [] [] ipos) env x = pure x) :
    DS C k env (exec (.For (.Tuple elts x1 px) (.Call (.Attribute o "items" apos) [] [] ipos) body [] pos) env) (do let a ← mo; lockM a fun l => forM' fuel (.fixed (l.map fun kv => .tup [.int kv.1, kv.2])) st mb) := by
  intro A σ a σ' hA hm ρ s Q E R h
  obtain ⟨x, σ₁, h₁, hm⟩ := bind_some hm
  refine wpAny_For ?_ hfs
  refine wpAny_Call_method hbase (by rfl) hline PySem.F.plainAttrs_dict PySem.F.slot_dict_items PySem.F.type_dict_items (ho A σ x σ₁ hA h₁ ρ s _ E R fun ρ₁ s₁ v₁ R₁ S₁ V₁ => ?_)
  unfold lockM at hm
  split at hm
  · rename_i n
    split at hm
    · rename_i l hl
      split at hm
      · rename_i fl σ₂ hrun
        cases hm
        cases V₁ with
        | @ref _ d₁ d₂ hr =>
          obtain ⟨d, d', hq, rfl, kvs, hD, hP⟩ := R₁.at hl
          rw [hr] at hq; cases hq
          obtain ⟨oo, hox, hoc, hod, _⟩ := dict_obj hD
          refine ⟨⟨_, hox, hoc⟩, fun a e => by injection e with e; subst e; exact ⟨_, hox, hod⟩, ?_⟩
          refine cw_self (fun a o e => R₁.base _ _ (C.X a o e)) ?_
          have hsys := R₁.notSys hr
          refine call_meetsIn PySem.F.slot_dict_items hD.typeIs PySem.F.entry_dict_items (PySem.F.args_dict_items_1 _) (meets_dict_items (intKind C.prog C.w) d₁ hsys) ⟨⟨kvs, hD⟩, ?_⟩
          obtain ⟨ep, hat⟩ := hD.dictAt
          refine wpAny_pyIter_items ⟨_, Heap.get?_push_size _ rfl, rfl, rfl⟩ (hat.push _) ?_
          have hlen := hP.length
          have hne : d₁ ≠ s₁.heap.objs.size + 1 := Nat.ne_of_lt (Nat.lt_succ_of_lt hat.lt_size)
          have hW : KTurns C.prog C.w A (.Tuple elts x1 px) (s₁.heap.objs.size + 1) [s₁.heap.objs.size + 1, d₁] [s₁.heap.objs.size + 1] (l.map fun kv => AV.tup [.int kv.1, kv.2]).length
              (fun i v h => ∃ T key k x, v = .ref T ∧ kvs[i]? = some (k, x) ∧ (intKind C.prog C.w).is k key = true ∧ h.get? T = some { cls := .type "tuple", data := .seq #[key, x] })
              (fun i v h => ∃ T key k x ok ov, v = .ref T ∧ kvs[i]? = some (k, x) ∧ (intKind C.prog C.w).is k key = true ∧ h.get? T = some { cls := .type "tuple", data := .seq #[key, x] } ∧ IsItemIterOut h (s₁.heap.objs.size + 1) d₁ (i + 1) kvs.length ep ok ov T ∧ h.DictAt (intKind C.prog C.w) d₁ kvs ep ∧ T ≠ s₁.heap.objs.size + 1)
              (fun i h => (∃ ok ov, IsItemIter h (s₁.heap.objs.size + 1) d₁ i kvs.length ep ok ov) ∧ h.DictAt (intKind C.prog C.w) d₁ kvs ep) := {
            sub := fun b hb => by simp at hb; simp [hb]
            frame := fun i h h' st hk => by
              obtain ⟨⟨ok, ov, he⟩, hm⟩ := st
              exact ⟨⟨ok, ov, hk _ (by simp) _ he⟩, hm.at' fun o e => hk d₁ (by simp) o e⟩
            item := fun i s Q E hi st hQ => by
              obtain ⟨⟨ok, ov, he⟩, hm⟩ := st
              rw [List.length_map, hlen] at hi
              obtain ⟨⟨k, x⟩, hx⟩ : ∃ p, kvs[i]? = some p := ⟨kvs[i], by simp [hi]⟩
              refine wpAny_pyNext_items_item he hm hx fun key h' hkey ho hT hsz hk => ?_
              exact hQ (.ref s.heap.objs.size) h' s.toks ⟨s.heap.objs.size, key, k, x, key, x, rfl, hx, hkey, hT, ho, hm.at' (fun o e => hk d₁ o hne e), Nat.ne_of_gt (Heap.lt_size he)⟩ fun b o hb e => hk b o (fun h => hb (by simp [h])) e
            go := fun i v s Q E hm hQ => by
              obtain ⟨T, key, k, x, ok, ov, rfl, hx, hkey, hT, ho, hd, hTI⟩ := hm
              refine wpAny_letOwnedTupleGo_items ho fun h' he hs => ?_
              exact hQ h' ⟨T, key, k, x, rfl, hx, hkey, hs.extBut T _ hTI hT⟩ ⟨⟨ok, ov, he⟩, hd.extBut hs.extBut hne⟩ fun b o hb e => hs.extBut b o (fun h => hb (by simp [h])) e
            done := fun s Q E st hQ => by
              obtain ⟨⟨ok, ov, he⟩, hm⟩ := st
              rw [List.length_map, hlen] at he
              exact wpAny_pyNext_items_end hA.1 he hm (by simp) fun h' hx => hQ h' s.toks fun b o hb e => hx b o (fun h => hb (by simp [h])) e }
          have hsz : (s₁.heap.push { cls := .type "dict_items", data := .fields #[.ref d₁] }).objs.size = s₁.heap.objs.size + 1 := Heap.size_push ..
          dsimp only
          rw [hsz]
          refine lock_turns (R' := fun r s' => match r with | .ok f => Q f s' | .error e => cameBackBy (model C.prog C.w) A env E e s') (h₂ := (s₁.heap.push { cls := .type "dict_items", data := .fields #[.ref d₁] }).push { cls := .type "dict_itemiterator", data := .fields #[.none, .bool false, .ref d₁, .int 0 0, .int kvs.length 0, .int ep 0, .none, .none] }) (it := s₁.heap.objs.size + 1) hst hb hA hl (by simp) hrun hr ⟨rfl, kvs, hD, hP⟩ R₁ S₁ R
            (fun b o e => Heap.get?_push_of_some _ (Heap.get?_push_of_some _ e)) ?_ hW ⟨⟨.none, .none, ?_⟩, (hat.push _).push _⟩ ?_ ?_ fun ρ' s' v R' S' V' => h ρ' s' v R' S' V'
          · cases e : s₁.heap.get? (s₁.heap.objs.size + 1) with
            | none => rfl
            | some o => exact absurd (Heap.lt_size e) (Nat.not_lt_of_le (Nat.le_succ _))
          · have hg : ((s₁.heap.push { cls := .type "dict_items", data := .fields #[.ref d₁] }).push { cls := .type "dict_itemiterator", data := .fields #[.none, .bool false, .ref d₁, .int 0 0, .int kvs.length 0, .int ep 0, .none, .none] }).get? (s₁.heap.push { cls := .type "dict_items", data := .fields #[.ref d₁] }).objs.size = some { cls := .type "dict_itemiterator", data := .fields #[.none, .bool false, .ref d₁, .int 0 0, .int kvs.length 0, .int ep 0, .none, .none] } := Heap.get?_push_size _ rfl
            rw [hsz] at hg
            exact hg
          · rintro i h ⟨⟨ok, ov, p⟩, _⟩
            exact ⟨_, p, by simp [Frozen]⟩
          · rintro i v h ρ' hz he ⟨T, key, kk, x, rfl, hx, hv, hT⟩ a ha
            rw [List.getElem?_map] at ha
            obtain ⟨kv, hkv, rfl⟩ := Option.map_eq_some_iff.mp ha
            have e1 : (l.map (·.1))[i]? = (kvs.map (·.1))[i]? := by rw [hP.1]
            rw [List.getElem?_map, List.getElem?_map, hkv, hx] at e1
            have e2 : kv.1 = kk := by simpa using e1
            obtain ⟨t, rfl⟩ := Value.isInt_shape (show Value.isInt kk key = true from hv)
            have hV := (hP.2.get i).1 kv.2 (by rw [List.getElem?_map, hkv]; rfl)
            obtain ⟨v', hv', hV⟩ := hV
            rw [List.getElem?_map, hx] at hv'
            cases hv'
            rw [e2]; exact .tup (its := [_, _]) hT (.cons (.int _ _) (.cons (hV.mono hz he) .nil))
      · cases hm
    · cases hm
  · cases hm
end
end Mine

open PySem PySem.W PyProof.Rows
set_option Elab.async false
set_option maxRecDepth 100000
set_option maxHeartbeats 1000000
set_option linter.unusedVariables false
namespace Mine
theorem sorted_uniq : ∀ {l m : List Int}, l.Perm m → l.Pairwise (· ≤ ·) → m.Pairwise (· ≤ ·) → l = m
  | [], m, p, _, _ => by simpa using p.symm
  | a :: l, [], p, _, _ => by simp at p
  | a :: l, b :: m, p, h1, h2 => by
    have e : a = b := by
      have ha : a ∈ b :: m := p.mem_iff.mp (by simp)
      have hb : b ∈ a :: l := p.mem_iff.mpr (by simp)
      rw [List.pairwise_cons] at h1 h2
      rcases List.mem_cons.mp ha with e | ha
      · exact e
      · rcases List.mem_cons.mp hb with e | hb
        · exact e.symm
        · have := h1.1 b hb; have := h2.1 a ha; omega
    subst e
    rw [List.pairwise_cons] at h1 h2
    rw [sorted_uniq ((List.perm_cons a).mp p) h1.2 h2.2]
def sortI (l : List Int) : List Int := l.mergeSort (fun a b => decide (a ≤ b))
theorem sortI_perm (l : List Int) : (sortI l).Perm l := List.mergeSort_perm _ _
theorem sortI_sorted (l : List Int) : (sortI l).Pairwise (· ≤ ·) := by
  have := List.pairwise_mergeSort (le := fun a b : Int => decide (a ≤ b)) (fun a b c h1 h2 => by simp at *; omega) (fun a b => by simp; omega) l
  exact this.imp (by simp)
theorem small_sorted : ∀ l ∈ small, l.Pairwise (· ≤ ·) := by decide +kernel
section
variable {C : Cx} {k : Nat} {env : Env}
theorem sorted_src {prog : Program} {w : World} {A : Around} {E : Value → Shared → Prop} {s : Shared} {T : String} {r d : Addr} {n : Nat} {P : Nat → Value → Prop} {OK : Heap → Prop} {Q : Value → Shared → Prop} (K : KdlSrc prog w T r d n P OK) (hh : A.handled = none) (hok : OK s.heap) (hn : n < 64)
    {G : List Int → Prop} (hP : ∀ vs : List Value, vs.length = n → (∀ (j : Nat) v, vs[j]? = some v → P j v) → ∃ ns, IntsAre vs ns ∧ G ns)
    (h : ∀ (h' h'' : Heap) (tk : Nat) (out : Array Value) (ns ns' : List Int) (e : Nat), (∀ b o, s.heap.get? b = some o → h'.get? b = some o) → (∀ b o, h'.get? b = some o → h''.get? b = some o) → h''.get? h'.objs.size = some (seqObj "list" out e) → IntsAre out.toList ns' → ns'.Perm ns → G ns → ns'.Pairwise (· ≤ ·) → Q (.ref h'.objs.size) { s with heap := h'', toks := tk }) :
    wpAny (model prog w) A (call (.builtin "sorted") [.ref r]) Q E s := by
  refine Calls.call_function_entry kind_sorted plain_sorted entry_sorted (args_sorted1 _) ?_
  unfold Builtin.«sorted»
  refine wpAny_bind (m := checkCount "sorted" 1 1 _) (wpAny_pure ?_)
  refine wpAny_bind (kdu_collect (A := A.in1) K hh hok (by rw [sizeLine_eq]; omega) fun h' tk acc hk hacc => ?_)
  have hl : acc.toList.length = n := by rw [Array.length_toList]; exact hacc.1
  obtain ⟨ns, hI, hG⟩ := hP acc.toList hl (fun j v e => hacc.2 j v (by rw [← Array.getElem?_toList]; exact e))
  refine wpAny_bind (wpAny_newList ?_ (by rw [hl, sizeLine_eq]; omega))
  have hoL : (h'.push (seqObj "list" acc.toList.toArray 0)).get? h'.objs.size = some (seqObj "list" acc.toList.toArray 0) := Heap.get?_push_size _ rfl
  refine wpAny_bind (wpAny_holding (wpAny_call_entry slot_list_sort ⟨_, hoL, rfl⟩ entry_list_sort (list_sort_tree (s := { s with heap := h'.push (seqObj "list" acc.toList.toArray 0), toks := tk }) hoL hI (by rw [hl]; exact hn) fun out ns' a1 a2 a3 => ⟨_, rfl, ?_⟩) (args_list_sort _)))
  obtain ⟨e, he⟩ := sortedHeap_at (out := out) hoL
  refine wpAny_pure ⟨_, rfl, ?_⟩
  refine h h' _ tk out ns ns' e hk (fun b o eo => ?_) he a1 a2 hG a3
  have hb := Heap.lt_size eo
  rw [sortedHeap_old (Nat.ne_of_lt hb) (by rw [size_push']; exact Nat.lt_succ_of_lt hb)]
  exact Heap.get?_push_of_some _ eo
theorem intsAre_rel {h : Heap} {ρ : Rho} : ∀ {vs : List Value} {ns : List Int}, IntsAre vs ns → VRels C.mC h ρ (ns.map .int) vs
  | _, _, .nil => .nil
  | _, _, .cons n t r => .cons (.int _ _) (intsAre_rel r)
theorem isInt_shape' {kk : Int} {v : Value} (h : (intKind C.prog C.w).is kk v = true) : ∃ t, v = .int kk t := Value.isInt_shape (show Value.isInt kk v = true from h)
/-- a fresh list of ints, past a heap that grew -/
theorem new_list {ρ : Rho} {σ : St} {s : Shared} {h' h'' : Heap} {out : Array Value} {ns : List Int} {e tk : Nat} (R : Rep C env ρ σ s.heap) (hk : ∀ b o, s.heap.get? b = some o → h'.get? b = some o) (hk' : ∀ b o, h'.get? b = some o → h''.get? b = some o)
    (hg : h''.get? h'.objs.size = some (seqObj "list" out e)) (hI : IntsAre out.toList ns) :
    Rep C env (ρ ++ [(h'.objs.size, h'.objs.size)]) { σ with hp := σ.hp ++ [.list (ns.map .int)] } h'' ∧ Sp env.locals ρ σ s (ρ ++ [(h'.objs.size, h'.objs.size)]) { σ with hp := σ.hp ++ [.list (ns.map .int)] } { s with heap := h'', toks := tk } := by
  have R' : Rep C env ρ σ h' := R.pushes hk
  have S' : Sp env.locals ρ σ s ρ σ { s with heap := h', toks := s.toks } := Sp.pushes hk s.toks
  refine ⟨R'.allocG (.list (ns.map .int)) hk' (Nat.le_refl _) (Nat.le_refl _) R'.lsize ⟨rfl, out.toList, ⟨e, ?_⟩, intsAre_rel hI⟩, S'.trans (Sp.allocG (s := { s with heap := h', toks := s.toks }) (.list (ns.map .int)) tk hk' (Nat.le_refl _) (Nat.le_refl _))⟩
  rw [Array.toArray_toList]; exact hg
def sortedM : List AV → M AV
  | [.ref n] => fun σ => match σ.hp[n]? with
    | some (.set l) => allocM (.list (l.map .int)) σ
    | some (.dict l) => if l.length < 64 then allocM (.list ((sortI (l.map (·.1))).map .int)) σ else none
    | _ => none
  | _ => fun _ => none
theorem ints_of_list : ∀ {vs : List Value} {ns : List Int}, vs.length = ns.length → (∀ (j : Nat) v, vs[j]? = some v → ∃ kk, ns[j]? = some kk ∧ ∃ t, v = .int kk t) → IntsAre vs ns
  | [], [], _, _ => .nil
  | [], _ :: _, h, _ => by simp at h
  | _ :: _, [], h, _ => by simp at h
  | v :: vs, n :: ns, h, hh => by
    obtain ⟨kk, e, t, rfl⟩ := hh 0 v rfl
    simp only [List.getElem?_cons_zero, Option.some.injEq] at e
    subst e
    exact .cons _ _ (ints_of_list (by simpa using h) fun j v' e => by simpa using hh (j + 1) v' (by simpa using e))
theorem kdl_set {prog : Program} {w : World} {a : Addr} {l : List Int} {ob : Obj} {es : Array (Int × Value)} {ep : Nat} {t : SetTable} (hl : l ∈ small) (hx : ob.ExactSet) (hd : ob.data = .set es ep t) (he : EntR es.toList l) (ht : SmT w t l) :
    KdlSrc prog w "set" a a l.length (fun i v => ∃ k : Int × Value, (setOrd w a ep es)[i]? = some k ∧ v = k.2) (fun h => h.get? a = some ob) where
  type := fun s h => ⟨ob, h, hx.1⟩
  there := fun h e => ⟨Heap.lt_size e, Heap.lt_size e⟩
  keep := fun h h' e hk => hk a (.inl rfl) _ e
  notList := by decide
  notTuple := by decide
  hint := fun A E s Q ho hq => by
    have hT : s.TypeIs (.ref a) "set" := ⟨ob, ho, hx.1⟩
    unfold Builtin.List.listLengthHint
    refine wpAny_bind (wpAny_specialOf hT PySem.F.slot_set_len.lookup ?_)
    generalize hid : ("set.__len__" : String) = id0
    wp_delta
    rw [show splitId id0 = some ("set", "__len__") from by subst hid; decide +kernel]
    subst hid
    refine wpAny_bind (wpAny_isInstance (T := "set") (b := true) hT (by rw [isSubtype_type]; kernel_rfl) ?_)
    refine wpAny_ite_split (fun hab => absurd hab (by decide)) (fun _ => ?_)
    refine wpAny_ite_split (fun _ => ?_) (fun hab => absurd (by decide +kernel) hab)
    refine wpAny_bind (wpAny_typeOf hT ?_)
    exact wpAny_pure hq
  iter := fun A s hh ho => ⟨_, _, fun E Q hq => set_iter hl ho hx hd he ht hq, setWalks hh s.heap.objs.size (Nat.ne_of_lt (Heap.lt_size ho)) hl hd he ht, ⟨by
    have e0 : slotAt w l 0 = 0 := by unfold slotAt; split <;> simp
    rw [e0]
    exact Heap.get?_push_size _ rfl, Heap.get?_push_of_some _ ho⟩⟩
theorem dc_sorted : DC C k env (RV C) (fun vs => call (.builtin "sorted") vs) sortedM := by
  intro A σ l a σ' hA hm ρ s Q E vs R V h
  unfold sortedM at hm
  split at hm
  · rename_i n
    split at hm
    · rename_i l' hl'
      cases hm
      cases V with
      | cons x V => cases V with
        | nil => cases x with
          | @ref _ a₁ _ hr =>
            obtain ⟨a₀, d, hq, rfl, hS⟩ := R.at hl'
            rw [hr] at hq; cases hq
            obtain ⟨hl, ob, es, ep, t, ho, hx, hd, he, ht⟩ := hS
            have hl8 := small_len hl
            refine sorted_src (kdl_set hl hx hd he ht) hA.1 ho (by omega) (G := fun ns => ns.Perm l') (fun vs hlen hP => ?_) fun h' h'' tk out ns ns' e hk hk' hg hI hp hG hs => ?_
            · have hsz : es.size = l'.length := by rw [← Array.length_toList, he.length]
              have hpm := setOrd_perm C.w a₁ ep es
              refine ⟨(setOrd C.w a₁ ep es).toList.map (·.1), ints_of_list ?_ fun j v e => ?_, ?_⟩
              · rw [List.length_map, hlen, hpm.length_eq, he.length]
              · obtain ⟨kv, hkv, rfl⟩ := hP j v e
                have hm : kv ∈ es.toList := hpm.mem_iff.mp (by
                  have : (setOrd C.w a₁ ep es).toList[j]? = some kv := by rw [Array.getElem?_toList]; exact hkv
                  exact List.mem_of_getElem? this)
                obtain ⟨t, ht⟩ := he.2 kv hm
                refine ⟨kv.1, ?_, t, ht⟩
                rw [List.getElem?_map, Array.getElem?_toList, hkv]; rfl
              · have := hpm.map (·.1)
                rw [he.1] at this; exact this
            · have e1 : ns' = l' := sorted_uniq (hp.trans hG) hs (small_sorted l' hl)
              subst e1
              obtain ⟨R', S'⟩ := new_list (tk := tk) R hk hk' hg hI
              exact h _ _ _ R' S' (.ref (new_ref R))
    · rename_i l' hl'
      split at hm
      · rename_i h64
        cases hm
        cases V with
        | cons x V => cases V with
          | nil => cases x with
            | ref hr =>
              obtain ⟨a₁, d, hq, rfl, kvs, hD, hP⟩ := R.at hl'
              rw [hr] at hq; cases hq
              have hsys := R.notSys hr
              obtain ⟨ep, hat⟩ := hD.dictAt
              have hlen := hP.length
              refine sorted_src (kdl_dict (kvs := kvs) (ep := ep) hsys) hA.1 hat (by omega) (G := fun ns => ns = l'.map (·.1)) (fun vs hlen' hP' => ?_) fun h' h'' tk out ns ns' e hk hk' hg hI hp hG hs => ?_
              · refine ⟨_, ints_of_list (ns := l'.map (·.1)) (by rw [List.length_map]; omega) fun j v e => ?_, rfl⟩
                obtain ⟨kk, x, hx, hv⟩ := hP' j v e
                refine ⟨kk, ?_, isInt_shape' hv⟩
                rw [hP.1, List.getElem?_map, hx]; rfl
              · have e1 : ns' = sortI (l'.map (·.1)) := sorted_uniq (hp.trans (hG ▸ (sortI_perm _).symm)) hs (sortI_sorted _)
                subst e1
                obtain ⟨R', S'⟩ := new_list (tk := tk) R hk hk' hg hI
                exact h _ _ _ R' S' (.ref (new_ref R))
      · cases hm
    · cases hm
  · cases hm
end
end Mine

open PySem PySem.W PyProof.Rows
set_option Elab.async false
set_option maxRecDepth 100000
set_option maxHeartbeats 1000000
set_option linter.unusedVariables false
namespace Mine
theorem mb_eq {α β : Type} {m : M α} {f : α → M β} {σ σ₁ : St} {a : α} (h : m σ = some (a, σ₁)) : (m >>= f) σ = f a σ₁ := by
  show M.bind m f σ = _
  unfold M.bind; rw [h]
theorem mb_assoc {α β γ : Type} (m : M α) (f : α → M β) (g : β → M γ) : ((m >>= f) >>= g) = (m >>= fun a => f a >>= g) := by
  funext σ
  show M.bind (M.bind m f) g σ = M.bind m (fun a => M.bind (f a) g) σ
  unfold M.bind
  cases m σ <;> rfl
theorem mb_pure {α β : Type} (a : α) (f : α → M β) : ((pure a : M α) >>= f) = f a := rfl
section
variable {C : Cx} {k : Nat} {env : Env}
def delItemM : AV → AV → M Unit
  | .ref n, .int i => fun σ => match σ.hp[n]? with
    | some (.dict l) => if l.length ≤ lim ∧ (getD l i).isSome = true then some ((), { σ with hp := σ.hp.set n (.dict (delD l i)) }) else none
    | _ => none
  | _, _ => fun _ => none
theorem ds_del {o i : PySem.Expr} {p pos : Pos} {mo mi : M AV} (ho : DV C k env (eval o env) mo) (hi : DV C k env (eval i env) mi) :
    DS C k env (exec (.Delete [.Subscript o i p] pos) env) (do let a ← mo; let b ← mi; delItemM a b; pure .next) := by
  intro A σ a σ' hA hm ρ s Q E R h
  obtain ⟨x, σ₁, h₁, hm⟩ := bind_some hm
  obtain ⟨y, σ₂, h₂, hm⟩ := bind_some hm
  obtain ⟨u, σ₃, h₃, hm⟩ := bind_some hm
  obtain ⟨rfl, rfl⟩ := pure_some hm
  refine wpAny_Delete (wpAny_deleteEach_cons (delete_Subscript (ho A σ x σ₁ hA h₁ ρ s _ E R fun ρ₁ s₁ v₁ R₁ S₁ V₁ => ?_)))
  refine hi A σ₁ y σ₂ hA h₂ ρ₁ s₁ _ E R₁ fun ρ₂ s₂ v₂ R₂ S₂ V₂ => ?_
  unfold delItemM at h₃
  split at h₃
  · rename_i n kk _
    split at h₃
    · rename_i l hl
      split at h₃
      · rename_i hlen
        cases h₃
        cases V₁ with
        | @ref _ d₁ d₂ hr =>
          cases V₂ with
          | int _ t =>
            have hr₂ := S₂.ext _ _ hr
            obtain ⟨a₀, d, hq, rfl, kvs, hD, hP⟩ := R₂.at hl
            rw [hr₂] at hq; cases hq
            unfold delItem
            try with_reducible refine wpAny_holding ?_
            refine wpAny_bind (wpAny_sequenceKey hD.typeIs (by decide) ?_)
            have hsome : (valueAt kvs kk).isSome = true := by rw [hP.isSome]; exact hlen.2
            refine wpAny_bind (wpAny_callSpecial?_slot (name := Str.ofString "__delitem__") hD.typeIs PySem.F.slot_dict_delitem
              (call_meetsIn PySem.F.slot_dict_delitem hD.typeIs PySem.F.entry_dict_delitem (PySem.F.args_dict_delitem_2 _ _) (meets_dict_delitem_pairs (intKind C.prog C.w) d₁ (isInt_int kk t)) ⟨kvs, hD, (by rw [← hP.length, sizeLine_eq]; have := hlen.1; unfold lim at this; omega), hsome, fun h' hmm hs => ?_⟩))
            have hnf : ∀ o, s₂.heap.get? d₁ = some o → ¬ Frozen o := (show ORel C s₂.heap ρ₂ (.dict l) (d₁, d₁) from ⟨rfl, kvs, hD, hP⟩).notFrozen d₁ (.inl rfl)
            obtain ⟨R', S'⟩ := R₂.turn (o' := .dict (delD l kk)) hr₂ hl (by simp) hs ⟨rfl, _, hmm, (hP.del kk).mono (frz_sameBut hs hnf) (fun _ _ e => e)⟩ (s₂.toks + 1)
            exact wpAny_pure (wpAny_deleteEach_nil (h _ _ _ R' ((S₁.trans S₂).trans S') .next))
      · cases h₃
    · cases h₃
  · cases h₃
theorem Rep.forget {ρ : Rho} {σ : St} {h : Heap} (R : Rep C env ρ σ h) {lc : List (Option AV)} (hf : ∀ (i : Nat) (av : AV), lc[i]? = some (some av) → σ.lc[i]? = some (some av)) : Rep C env ρ { σ with lc := lc } h where
  base := R.base
  above := R.above
  ns := let ⟨m, hm, hs⟩ := R.ns; ⟨m, hm, fun i av e => hs i av (hf i av e)⟩
  len := R.len
  objs := R.objs
  fresh := R.fresh
  sep := R.sep
  names := R.names
  kind := R.kind
  globs := R.globs
  blts := R.blts
theorem Sp.lcs {L : Addr} {ρ ρ' : Rho} {σ σ' : St} {s s' : Shared} (S : Sp L ρ σ s ρ' σ' s') (lc : List (Option AV)) : Sp L ρ σ s ρ' { σ' with lc := lc } s' where
  ext := S.ext
  keep := S.keep
  frz := S.frz
  new := S.new
  live := S.live
  lock := S.lock
  os := S.os
  gens := S.gens
def delB (nd i : Nat) : M Fl := do let a ← ldM nd; let b ← ldM i; delItemM a b; pure .next
theorem getD_filter {l : List (Int × AV)} {p : Int → Bool} {k : Int} (hp : p k = true) : getD (l.filter fun kv => p kv.1) k = getD l k := by
  unfold getD
  congr 1
  induction l with
  | nil => rfl
  | cons kv r ih =>
    rw [List.filter_cons]
    by_cases hk : kv.1 = k
    · rw [hk, hp]; simp [hk]
    · cases hq : p kv.1
      · simp only [Bool.false_eq_true, if_false, List.find?_cons, hk, decide_false]; exact ih
      · simp only [if_true, List.find?_cons, hk, decide_false]; exact ih
theorem delB_run (nd i n : Nat) (hne : nd ≠ i) : ∀ (ord : List Int) (f : Nat) (σ : St) (l : List (Int × AV)), ord.length < f → ord.Nodup → σ.lc[nd]? = some (some (.ref n)) → i < σ.lc.length → σ.hp[n]? = some (.dict l) → l.length ≤ lim →
    (∀ k ∈ ord, (getD l k).isSome = true) → ∃ lc', forM' f (.fixed (ord.map .int)) (stM i) (delB nd i) σ = some (.next, ⟨σ.hp.set n (.dict (l.filter fun kv => decide (kv.1 ∉ ord))), lc'⟩) ∧ ∀ j, j ≠ i → lc'[j]? = σ.lc[j]?
  | [], f + 1, σ, l, _, _, _, _, hl, _, _ => by
    refine ⟨σ.lc, ?_, fun _ _ => rfl⟩
    show (do let r ← nxtM (.fixed []); _ : M Fl) σ = _
    have e : (l.filter fun kv => decide (kv.1 ∉ ([] : List Int))) = l := List.filter_eq_self.mpr (by simp)
    rw [e]
    have e2 : σ.hp.set n (.dict l) = σ.hp := by
      obtain ⟨h1, h2⟩ := List.getElem?_eq_some_iff.mp hl
      rw [← h2]; exact List.set_getElem_self h1
    rw [e2]; rfl
  | k :: ord, f + 1, σ, l, hf, hn, hd, hi, hl, hlen, hall => by
    rw [List.nodup_cons] at hn
    have hk := hall k (by simp)
    let σ₁ : St := ⟨σ.hp.set n (.dict (delD l k)), σ.lc.set i (some (.int k))⟩
    have hn' : n < σ.hp.length := (List.getElem?_eq_some_iff.mp hl).1
    have hrun : delB nd i ⟨σ.hp, σ.lc.set i (some (.int k))⟩ = some (.next, σ₁) := by
      have e1 : ldM nd ⟨σ.hp, σ.lc.set i (some (.int k))⟩ = some (.ref n, ⟨σ.hp, σ.lc.set i (some (.int k))⟩) := by
        unfold ldM; simp only [List.getElem?_set_ne (Ne.symm hne), hd]
      have e2 : ldM i ⟨σ.hp, σ.lc.set i (some (.int k))⟩ = some (.int k, ⟨σ.hp, σ.lc.set i (some (.int k))⟩) := by
        unfold ldM; simp only [List.getElem?_set_self hi]
      have e3 : delItemM (.ref n) (.int k) ⟨σ.hp, σ.lc.set i (some (.int k))⟩ = some ((), σ₁) := by
        unfold delItemM; simp only [hl, hlen, hk, and_self, if_true]; rfl
      unfold delB
      rw [mb_eq e1, mb_eq e2, mb_eq e3]; rfl
    obtain ⟨lc', h1, h2⟩ := delB_run nd i n hne ord f σ₁ (delD l k) (by simpa using hf) hn.2 (by show (σ.lc.set i _)[nd]? = _; rw [List.getElem?_set_ne (Ne.symm hne)]; exact hd) (by show i < (σ.lc.set i _).length; simpa using hi)
      (by show (σ.hp.set n _)[n]? = _; rw [List.getElem?_set_self hn']) (Nat.le_trans (List.length_filter_le _ _) hlen) (fun k' hk' => by
        have hne' : k' ≠ k := fun e => hn.1 (e ▸ hk')
        have := hall k' (by simp [hk'])
        unfold delD
        rw [getD_filter (p := fun x => decide (x ≠ k)) (by simpa using hne')]; exact this)
    refine ⟨lc', ?_, fun j hj => by rw [h2 j hj]; show (σ.lc.set i _)[j]? = _; rw [List.getElem?_set_ne (Ne.symm hj)]⟩
    have hstep : forM' (f + 1) (.fixed (.int k :: ord.map .int)) (stM i) (delB nd i) σ = forM' f (.fixed (ord.map .int)) (stM i) (delB nd i) σ₁ := by
      rw [forM', mb_eq (show nxtM (.fixed (.int k :: ord.map .int)) σ = some (some (.int k, .fixed (ord.map .int)), σ) from rfl)]
      dsimp only
      rw [mb_eq (show stM i (.int k) σ = some ((), ⟨σ.hp, σ.lc.set i (some (.int k))⟩) from rfl), mb_eq hrun]
    rw [List.map_cons, hstep, h1]
    have e : (delD l k).filter (fun kv => decide (kv.1 ∉ ord)) = l.filter fun kv => decide (kv.1 ∉ k :: ord) := by
      unfold delD
      rw [List.filter_filter]
      congr 1
      funext kv
      simp only [List.mem_cons, not_or, Bool.decide_and, decide_not, Bool.and_comm]
    rw [e]
    show some (_, (⟨(σ.hp.set n _).set n _, lc'⟩ : St)) = _
    rw [List.set_set]
def delAllM (ms : M AV) (nd i : Nat) : M Fl := do
  let a ← ms
  match a with
  | .ref m => fun σ => match σ.hp[m]?, σ.lc[nd]? with
    | some (.set S), some (some (.ref n)) => (match σ.hp[n]? with
      | some (.dict l) => if ((S.all fun k => (getD l k).isSome) && decide (l.length ≤ lim) && decide (i < σ.lc.length)) = true then some (.next, ⟨σ.hp.set n (.dict (l.filter fun kv => decide (kv.1 ∉ S))), σ.lc.set i none⟩) else none
      | _ => none)
    | _, _ => none
  | _ => fun _ => none
theorem ds_for_del {x y : Str} {px p2 p3 p4 pos pos' : Pos} {iter : PySem.Expr} {ms : M AV} (nd i : Nat) (hnd : env.scope.names[nd]? = some (y, .local)) (hi : env.scope.names[i]? = some (x, .local)) (hne : nd ≠ i)
    (hdx : (x == ("__debug__" : Str)) = false) (hdy : (y == ("__debug__" : Str)) = false) (hs : DV C k env (eval iter env) ms) (hfs : ∀ x, foldedSetIterable iter env x = pure x) :
    DS C k env (exec (.For (.Name x px) iter [.Delete [.Subscript (.Name y p2) (.Name x p3) p4] pos'] [] pos) env) (delAllM ms nd i) := by
  intro A σ a σ' hA hm ρ s Q E R h
  obtain ⟨v, σ₁, h₁, hm⟩ := bind_some hm
  refine wpAny_For (hs A σ v σ₁ hA h₁ ρ s _ E R fun ρ₁ s₁ v₁ R₁ S₁ V₁ => ?_) hfs
  split at hm
  · rename_i m
    split at hm
    · rename_i S n hS hlc
      split at hm
      · rename_i l hl
        split at hm
        · rename_i hc
          cases hm
          cases V₁ with
          | @ref _ a₁ _ hr =>
            obtain ⟨a₀, d, hq, rfl, hSS⟩ := R₁.at hS
            rw [hr] at hq; cases hq
            obtain ⟨hsm, ob, es, ep, t, ho, hx, hd, he, ht⟩ := id hSS
            simp only [Bool.and_eq_true, decide_eq_true_eq, List.all_eq_true] at hc
            obtain ⟨⟨hall, hlen⟩, hil⟩ := hc
            refine set_iter hsm ho hx hd he ht ?_
            have hpm := setOrd_perm C.w a₁ ep es
            have hpmk : ((setOrd C.w a₁ ep es).toList.map (·.1)).Perm S := by
              have := hpm.map (·.1); rw [he.1] at this; exact this
            have hnm : n ≠ m := fun e => by subst e; rw [hS] at hl; cases hl
            have hml : m < σ₁.hp.length := (List.getElem?_eq_some_iff.mp hS).1
            have h8 := small_len hsm
            obtain ⟨lc', hrun, hlc'⟩ := delB_run nd i n hne ((setOrd C.w a₁ ep es).toList.map (·.1)) fuel { σ₁ with hp := σ₁.hp.set m .lock } l (by rw [hpmk.length_eq]; unfold fuel; omega) (hpmk.nodup_iff.mpr (small_nodup S hsm)) hlc hil
              (by show (σ₁.hp.set m .lock)[n]? = _; rw [List.getElem?_set_ne (Ne.symm hnm)]; exact hl) hlen (fun k hk => hall k (hpmk.mem_iff.mp hk))
            have hbody : DS C k env (execs [.Delete [.Subscript (.Name y p2) (.Name x p3) p4] pos'] env) (delB nd i) := by
              have h0 := ds_cons (ds_del (p := p4) (pos := pos') (den_local (pos := p2) nd hnd hdy) (den_local (pos := p3) i hi hdx)) (ds_nil (C := C) (k := k) (env := env))
              have e : (do let f ← (do let a ← ldM nd; let b ← ldM i; delItemM a b; pure .next : M Fl); thenM f (pure .next) : M Fl) = delB nd i := by
                simp only [mb_assoc, mb_pure, thenM]; rfl
              rw [e] at h0; exact h0
            have hlenO : (((setOrd C.w a₁ ep es).toList.map (·.1)).map AV.int).length = S.length := by rw [List.length_map, hpmk.length_eq]
            have hW := KTurns.ofWalks (target := .Name x px) (setWalks (prog := C.prog) hA.1 s₁.heap.objs.size (Nat.ne_of_lt (Heap.lt_size ho)) hsm hd he ht) fun i v s Q E st q => by
              show wpAny _ _ (pure () : Sem Unit) _ _ _
              exact wpAny_pure q
            rw [← hlenO] at hW
            refine lock_turns (R' := fun r s' => match r with | .ok f => Q f s' | .error e => cameBackBy (model C.prog C.w) A env E e s') (it := s₁.heap.objs.size) (da_name i hi) hbody hA hS (by simp) hrun hr ⟨rfl, hSS⟩ R₁ S₁ R (fun b o e => Heap.get?_push_of_some _ e) (get_size_none _) hW ⟨?_, Heap.get?_push_of_some _ ho⟩ ?_ ?_ fun ρ' s' v R' S' V' => ?_
            · have e0 : slotAt C.w S 0 = 0 := by unfold slotAt; split <;> simp
              rw [e0, hlenO]
              exact Heap.get?_push_size _ rfl
            · rintro i h ⟨p, _⟩
              exact ⟨_, p, by simp [Frozen]⟩
            · rintro j v h ρ' hz he' ⟨kv, hkv, rfl⟩ a ha
              rw [List.getElem?_map, List.getElem?_map, Array.getElem?_toList, hkv] at ha
              cases ha
              have hm : kv ∈ es.toList := hpm.mem_iff.mp (by
                have : (setOrd C.w a₁ ep es).toList[j]? = some kv := by rw [Array.getElem?_toList]; exact hkv
                exact List.mem_of_getElem? this)
              obtain ⟨t, ht⟩ := he.2 kv hm
              rw [ht]; exact .int _ _
            · have e1 : (((σ₁.hp.set m .lock).set n (.dict (l.filter fun kv => decide (kv.1 ∉ (setOrd C.w a₁ ep es).toList.map (·.1))))).set m (.set S)) = σ₁.hp.set n (.dict (l.filter fun kv => decide (kv.1 ∉ S))) := by
                have e2 : (l.filter fun kv => decide (kv.1 ∉ (setOrd C.w a₁ ep es).toList.map (·.1))) = l.filter fun kv => decide (kv.1 ∉ S) := by
                  congr 1; funext kv; simp only [hpmk.mem_iff]
                have : σ₁.hp.set m (.set S) = σ₁.hp := by
                  obtain ⟨h1, h2⟩ := List.getElem?_eq_some_iff.mp hS
                  rw [← h2]; exact List.set_getElem_self h1
                rw [e2]
                have c1 := List.set_comm (l := σ₁.hp) AO.lock (AO.dict (l.filter fun kv => decide (kv.1 ∉ S))) (Ne.symm hnm)
                have c2 := List.set_comm (l := σ₁.hp) (AO.set S) (AO.dict (l.filter fun kv => decide (kv.1 ∉ S))) (Ne.symm hnm)
                rw [c1, List.set_set, ← c2, this]
              have R'' := R'.forget (lc := σ₁.lc.set i none) (fun j av e => by
                by_cases hj : j = i
                · subst hj; rw [List.getElem?_set_self hil] at e; cases e
                · rw [List.getElem?_set_ne (Ne.symm hj)] at e
                  show lc'[j]? = _
                  rw [hlc' j hj]; exact e)
              have S'' := S'.lcs (σ₁.lc.set i none)
              dsimp only at R'' S''
              rw [e1] at R'' S''
              exact h ρ' s' v R'' S'' V'
        · cases hm
      · cases hm
    · cases hm
  · cases hm
end
end Mine

open PySem PySem.W PyProof.Rows
set_option Elab.async false
set_option maxRecDepth 100000
set_option maxHeartbeats 1000000
set_option linter.unusedVariables false
namespace Mine
section
variable {C : Cx} {k : Nat} {env : Env}
theorem den_ifexp {test body orelse : PySem.Expr} {pos : Pos} {mt : M Bool} {mb mo : M AV} (ht : DB C k env (isTrue test env (eval test env)) mt) (hb : DV C k env (eval body env) mb) (ho : DV C k env (eval orelse env) mo) :
    DV C k env (eval (.IfExp test body orelse pos) env) (do let b ← mt; if b then mb else mo) := by
  intro A σ a σ' hA hm ρ s Q E R h
  obtain ⟨x, σ₁, hx, hm⟩ := bind_some hm
  refine wpAny_IfExp (ht A σ x σ₁ hA hx ρ s _ E R fun ρ₁ s₁ v₁ R₁ S₁ V₁ => ?_)
  rw [V₁]
  cases x with
  | true => exact hb A σ₁ a σ' hA hm ρ₁ s₁ Q E R₁ fun ρ' s' v R' S' V' => h ρ' s' v R' (S₁.trans S') V'
  | false => exact ho A σ₁ a σ' hA hm ρ₁ s₁ Q E R₁ fun ρ' s' v R' S' V' => h ρ' s' v R' (S₁.trans S') V'
/-- a step of one frame, then a step of another that the first never saw -/
theorem Sp.into {L L' : Addr} {ρ₁ ρ₂ ρ₃ : Rho} {σ₁ σ₂ σ₂' σ₃ : St} {s₁ s₂ s₃ : Shared} (x : Sp L ρ₁ σ₁ s₁ ρ₂ σ₂ s₂) (y : Sp L' ρ₂ σ₂' s₂ ρ₃ σ₃ s₃) (hL : s₁.heap.get? L' = none) (hh : σ₂'.hp = σ₂.hp) : Sp L ρ₁ σ₁ s₁ ρ₃ σ₃ s₃ where
  ext := fun n q h => y.ext n q (x.ext n q h)
  keep := fun b o h hb hbL => by
    refine y.keep b o (x.keep b o h hb hbL) ?_ (fun e => by rw [e, hL] at h; cases h)
    rintro ⟨n, a, d, hr, hlk, hbd⟩
    rw [hh] at hlk
    by_cases hn : n < ρ₁.length
    · have h1 : ρ₁[n]? = some ρ₁[n] := List.getElem?_eq_getElem hn
      have h2 := x.ext n _ h1
      rw [hr] at h2
      exact hb ⟨n, a, d, by rw [h1, ← h2], fun q => hlk (x.lock n q), hbd⟩
    · have hnew := x.new n a d (Nat.le_of_not_lt hn) hr
      rcases hbd with rfl | rfl
      · rw [hnew.1] at h; cases h
      · rw [hnew.2] at h; cases h
  frz := fun b o h hf => y.frz b o (x.frz b o h hf) hf
  new := fun n a d hn hr => by
    by_cases h2 : n < ρ₂.length
    · have h1 : ρ₂[n]? = some ρ₂[n] := List.getElem?_eq_getElem h2
      have h3 := y.ext n _ h1
      rw [hr] at h3
      exact x.new n a d hn (by rw [h1, ← h3])
    · have hnew := y.new n a d (Nat.le_of_not_lt h2) hr
      exact ⟨not_live_of x hnew.1, not_live_of x hnew.2⟩
  live := fun b o h => let ⟨o', h'⟩ := x.live b o h; y.live b o' h'
  lock := fun n h => y.lock n (by rw [hh]; exact x.lock n h)
  os := y.os.trans x.os
  gens := fun h => y.gens (x.gens h)
/-- the body of a comprehension's loop -/
def compB (acc : Nat) (mt : M Bool) (me : M AV) : M Fl := do
  let b ← mt
  if b then do
    let v ← me
    let _ ← appendM [.ref acc, v]
    pure .next
  else pure .next
/-- the tests of a comprehension -/
abbrev DTs (C : Cx) (k : Nat) (env : Env) (ifs : List PySem.Expr) (m : M Bool) : Prop :=
  Den C k env RB (forIn ifs true fun c r => if r = true then do let ok ← isTrue c env (eval c env); pure (ForInStep.yield ok) else pure (ForInStep.yield r)) m
theorem dts_nil : DTs C k env [] (pure true) := by
  intro A σ a σ' hA hm ρ s Q E R h
  obtain ⟨rfl, rfl⟩ := pure_some hm
  exact wpAny_tests_nil (h ρ s _ R (Sp.refl _ _ _ _) rfl)
theorem dts_one {c : PySem.Expr} {m : M Bool} (hc : DB C k env (isTrue c env (eval c env)) m) : DTs C k env [c] m := by
  intro A σ a σ' hA hm ρ s Q E R h
  exact wpAny_tests_one (hc A σ a σ' hA hm ρ s _ E R h)
/-- the loop of a comprehension of one clause -/
theorem comp_loop {elt target iter : PySem.Expr} {ifs : List PySem.Expr} {scope : Scope} {pos : Pos} {st : AV → M Unit} {mt : M Bool} {me : M AV} (hst : DO1 C k env RU (assign target env) st) (ht : DTs C k env ifs mt) (he : DV C k env (eval elt env) me)
    {P : Src → Prop} (hP : ∀ g g' σ σ' a, nxtM g σ = some (some (a, g'), σ') → P g → P g')
    (hlo : ∀ (A : Around) (ρ : Rho) (s : Shared) (Q : Unit → Shared → Prop) (E : Value → Shared → Prop) (it : Nat) (its : List Nat) (v : Value) (g : Src), P g → ItOut C s.heap ρ it its v g → 
      (∀ h', (∀ b o, b ∉ its → s.heap.get? b = some o → h'.get? b = some o) → ItR C h' ρ it its g → Q () { s with heap := h' }) → wpAny (model C.prog C.w) A (letOwnedTupleGo target (.ref it) v) Q E s)
    {A : Around} {σ : St} {a : Fl} {σ' : St} {g : Src} {fuel acc : Nat} (hA : AOk k A) (hm : forM' fuel g st (compB acc mt me) σ = some (a, σ')) {ρ : Rho} {s : Shared} {R' : Result → Shared → Prop} {it : Nat} {its : List Nat} {ρ₀ : Rho} {σ₀ : St} {s₀ : Shared} {L : Addr} {D : Nat}
    (hPg : P g) (R : Rep C env ρ σ s.heap) (S : Sp L ρ₀ σ₀ s₀ ρ σ s) (hL₀ : s₀.heap.get? env.locals = none) (hL : env.locals ∉ its) (hh0 : ∀ b ∈ its, C.h₀.get? b = none) (I : ItR C s.heap ρ it its g) (hi : ∀ b ∈ its, s₀.heap.get? b = none) (hr : ∀ (m a d : Nat), ρ[m]? = some (a, d) → a ∉ its ∧ d ∉ its)
    (hacc : ρ[acc]? = some (D, D)) {b₀ : Nat} {o₀ : Obj} (hb0 : s.heap.get? b₀ = some o₀) (hb1 : b₀ ∉ its) (hb2 : b₀ ≠ env.locals) (hb3 : ∀ (m a d : Nat), ρ[m]? = some (a, d) → a ≠ b₀ ∧ d ≠ b₀)
    (h : ∀ ρ' s', a = .next → Rep C env ρ' σ' s'.heap → Sp L ρ₀ σ₀ s₀ ρ' σ' s' → s'.heap.get? b₀ = some o₀ → (∀ (m a d : Nat), ρ'[m]? = some (a, d) → a ≠ b₀ ∧ d ≠ b₀) → (∀ (n : Nat) q, ρ[n]? = some q → ρ'[n]? = some q) → (∀ b o, s.heap.get? b = some o → Frozen o → s'.heap.get? b = some o) → R' (.ok .next) s') : codeAny (model C.prog C.w) A (.compLoop (.ListComp elt [⟨target, iter, ifs, 0⟩] scope pos) 0 (.ref it) (.ref D) env) R' s := by
  refine codeAny_loop rfl (fun n s₁ => ∃ σ₁ ρ₁ g₁, forM' n g₁ st (compB acc mt me) σ₁ = some (a, σ') ∧ P g₁ ∧ Rep C env ρ₁ σ₁ s₁.heap ∧ Sp L ρ₀ σ₀ s₀ ρ₁ σ₁ s₁ ∧ ItR C s₁.heap ρ₁ it its g₁ ∧ (∀ (m a d : Nat), ρ₁[m]? = some (a, d) → a ∉ its ∧ d ∉ its) ∧ ρ₁[acc]? = some (D, D) ∧ s₁.heap.get? b₀ = some o₀ ∧ (∀ (m a d : Nat), ρ₁[m]? = some (a, d) → a ≠ b₀ ∧ d ≠ b₀)
      ∧ (∀ (n : Nat) q, ρ[n]? = some q → ρ₁[n]? = some q) ∧ (∀ b o, s.heap.get? b = some o → Frozen o → s₁.heap.get? b = some o))
    (fun n s₁ hI => ?_) fuel ⟨σ, ρ, g, hm, hPg, R, S, I, hr, hacc, hb0, hb3, fun _ _ e => e, fun _ _ e _ => e⟩
  obtain ⟨σ₁, ρ₁, g₁, hm, hPg, R₁, S₁, I₁, hr₁, hacc₁, hb0₁, hb3₁, hx₁, hz₁⟩ := hI
  show wpAny _ A ((compTurn (.ListComp elt [⟨target, iter, ifs, 0⟩] scope pos) 0 (.ref it) (.ref D) env).onRaise (fun x => do noteFrame x env; theTreesLotGoes x)) _ _ s₁
  refine wpAny_noted ?_
  rw [compTurn_list]
  refine wpAny_bind (wpAny_standAt (wpAny_bind ?_))
  cases n with
  | zero => cases hm
  | succ n =>
    rw [forM'] at hm
    obtain ⟨r, σ₂, h₂, hm⟩ := bind_some hm
    refine src_next hA h₂ R₁ I₁ fun hσ s₂ v hk hos hgens hv => ?_
    subst hσ
    have R₂ := R₁.its hk hL hh0 hr₁ I₁.notFrozen
    have S₂ := S₁.its hi hk hos hgens
    cases r with
    | none =>
      subst hv
      obtain ⟨rfl, rfl⟩ := pure_some hm
      exact wpAny_pure (h ρ₁ s₂ rfl R₂ S₂ (hk b₀ _ hb1 hb0₁) hb3₁ hx₁ (fun b o e hf => hk b o (fun hb => I₁.notFrozen b hb o (hz₁ b o e hf) hf) (hz₁ b o e hf)))
    | some ag =>
      obtain ⟨av, g'⟩ := ag
      obtain ⟨x, rfl, V₂, O₂, _⟩ := hv
      have hPg' := hP _ _ _ _ _ h₂ hPg
      refine wpAny_bind (hlo A ρ₁ s₂ _ _ it its x g' hPg' O₂ fun h₃ hk₃ I₃ => ?_)
      have hfz3 : ∀ b ∈ its, ∀ o, s₂.heap.get? b = some o → ¬ Frozen o := by
        intro b hb o e hf
        cases g' with
        | enum n i =>
          obtain ⟨it2, l, x', a', rfl, _, _, ⟨o', p, hc, hd⟩, q, _⟩ := O₂
          have hb' : b = it ∨ b = it2 := by simpa using hb
          rcases hb' with rfl | rfl
          · rw [q] at e; cases e; simp [Frozen] at hf
          · rw [p] at e; cases e; simp [Frozen, hc, hd] at hf
        | list n i => exact ItR.notFrozen (C := C) (ρ := ρ₁) (g := .list n i) O₂ b hb o e hf
        | fixed l => exact ItR.notFrozen (C := C) (ρ := ρ₁) (g := .fixed l) O₂ b hb o e hf
        | range x' l => exact ItR.notFrozen (C := C) (ρ := ρ₁) (g := .range x' l) O₂ b hb o e hf
      have R₃ : Rep C env ρ₁ σ₂ h₃ := R₂.its hk₃ hL hh0 hr₁ hfz3
      have S₃ : Sp L ρ₀ σ₀ s₀ ρ₁ σ₂ { s₂ with heap := h₃ } := S₂.its hi hk₃ rfl rfl
      have V₃ : VRel C.mC h₃ ρ₁ av x := V₂.mono (fun b o e hf => hk₃ b o (fun hb => hfz3 b hb o e hf) e) (fun _ _ e => e)
      obtain ⟨u, σ₄, h₄, hm⟩ := bind_some hm
      refine wpAny_bind (hst A σ₂ av u σ₄ hA h₄ ρ₁ { s₂ with heap := h₃ } _ _ x R₃ V₃ fun ρ₄ s₄ _ R₄ S₄ _ => ?_)
      obtain ⟨f, σ₅, h₅, hm⟩ := bind_some hm
      have fin : ∀ ρ₅ s₅, Rep C env ρ₅ σ₅ s₅.heap → Sp env.locals ρ₁ σ₂ { s₂ with heap := h₃ } ρ₅ σ₅ s₅ → forM' n g' st (compB acc mt me) σ₅ = some (a, σ') →
          ∃ m, m < n + 1 ∧ ∃ σ₁ ρ₁ g₁, forM' m g₁ st (compB acc mt me) σ₁ = some (a, σ') ∧ P g₁ ∧ Rep C env ρ₁ σ₁ s₅.heap ∧ Sp L ρ₀ σ₀ s₀ ρ₁ σ₁ s₅ ∧ ItR C s₅.heap ρ₁ it its g₁ ∧ (∀ (m a d : Nat), ρ₁[m]? = some (a, d) → a ∉ its ∧ d ∉ its) ∧ ρ₁[acc]? = some (D, D) ∧ s₅.heap.get? b₀ = some o₀ ∧ (∀ (m a d : Nat), ρ₁[m]? = some (a, d) → a ≠ b₀ ∧ d ≠ b₀)
            ∧ (∀ (n : Nat) q, ρ[n]? = some q → ρ₁[n]? = some q) ∧ (∀ b o, s.heap.get? b = some o → Frozen o → s₅.heap.get? b = some o) := by
        intro ρ₅ s₅ R₅ S45 hrun
        have hfoot : ∀ b ∈ its, ¬ foot ρ₁ σ₂ b := by
          rintro b hb ⟨m, a', d', hm', _, hbd⟩
          have := hr₁ m a' d' hm'
          rcases hbd with rfl | rfl
          · exact this.1 hb
          · exact this.2 hb
        have I₅ : ItR C s₅.heap ρ₅ it its g' := I₃.keep (fun b hb o e => S45.keep b o e (hfoot b hb) (fun q => hL (q ▸ hb))) S45.frz S45.ext
        have hr₅ : ∀ (m a d : Nat), ρ₅[m]? = some (a, d) → a ∉ its ∧ d ∉ its := fun m a' d' hm' => by
          by_cases hlt : m < ρ₁.length
          · have e1 : ρ₁[m]? = some ρ₁[m] := List.getElem?_eq_getElem hlt
            have e2 := S45.ext m _ e1
            rw [hm'] at e2
            exact hr₁ m a' d' (by rw [e1, ← e2])
          · have hnew := S45.new m a' d' (Nat.le_of_not_lt hlt) hm'
            rw [show (Shared.heap { s₂ with heap := h₃ }) = h₃ from rfl] at hnew
            refine ⟨fun q => ?_, fun q => ?_⟩
            · obtain ⟨o, ho⟩ := I₃.live _ q
              rw [hnew.1] at ho; cases ho
            · obtain ⟨o, ho⟩ := I₃.live _ q
              rw [hnew.2] at ho; cases ho
        have hb0₃ : h₃.get? b₀ = some o₀ := hk₃ b₀ _ hb1 (hk b₀ _ hb1 hb0₁)
        have hb0₅ : s₅.heap.get? b₀ = some o₀ := S45.keep b₀ _ hb0₃ (by
          rintro ⟨m, a', d', hm', _, hbd⟩
          have := hb3₁ m a' d' hm'
          rcases hbd with rfl | rfl
          · exact this.1 rfl
          · exact this.2 rfl) hb2
        have hb3₅ : ∀ (m a d : Nat), ρ₅[m]? = some (a, d) → a ≠ b₀ ∧ d ≠ b₀ := fun m a' d' hm' => by
          by_cases hlt : m < ρ₁.length
          · have e1 : ρ₁[m]? = some ρ₁[m] := List.getElem?_eq_getElem hlt
            have e2 := S45.ext m _ e1
            rw [hm'] at e2
            exact hb3₁ m a' d' (by rw [e1, ← e2])
          · have hnew := S45.new m a' d' (Nat.le_of_not_lt hlt) hm'
            rw [show (Shared.heap { s₂ with heap := h₃ }) = h₃ from rfl] at hnew
            exact ⟨fun q => (by rw [← q, hnew.1] at hb0₃; cases hb0₃), fun q => (by rw [← q, hnew.2] at hb0₃; cases hb0₃)⟩
        have hz₃ : ∀ b o, s.heap.get? b = some o → Frozen o → h₃.get? b = some o := fun b o e hf => hk₃ b o (fun hb => I₁.notFrozen b hb o (hz₁ b o e hf) hf) (hk b o (fun hb => I₁.notFrozen b hb o (hz₁ b o e hf) hf) (hz₁ b o e hf))
        exact ⟨n, Nat.lt_succ_self n, σ₅, ρ₅, g', hrun, hPg', R₅, S₃.into S45 hL₀ rfl, I₅, hr₅, S45.ext _ _ hacc₁, hb0₅, hb3₅, fun n q e => S45.ext _ _ (hx₁ n q e), fun b o e hf => S45.frz b o (hz₃ b o e hf) hf⟩
      unfold compB at h₅
      obtain ⟨b, σ₆, h₆, h₅⟩ := bind_some h₅
      refine wpAny_bind (ht A σ₄ b σ₆ hA h₆ ρ₄ s₄ _ _ R₄ fun ρ₆ s₆ bv R₆ S₆ hb => ?_)
      subst hb
      cases bv with
      | false =>
        obtain ⟨rfl, rfl⟩ := pure_some h₅
        refine wpAny_bind (wpAny_pure ?_)
        exact wpAny_pure ⟨rfl, fin ρ₆ s₆ R₆ (S₄.trans S₆) hm⟩
      | true =>
        obtain ⟨w, σ₇, h₇, h₅⟩ := bind_some h₅
        obtain ⟨u', σ₈, h₈, h₅⟩ := bind_some h₅
        obtain ⟨rfl, rfl⟩ := pure_some h₅
        refine wpAny_bind ?_
        simp only [if_true]
        refine wpAny_bind (he A σ₆ w σ₇ hA h₇ ρ₆ s₆ _ _ R₆ fun ρ₇ s₇ v₇ R₇ S₇ V₇ => ?_)
        have hacc₇ : VRel C.mC s₇.heap ρ₇ (.ref acc) (.ref D) := .ref (d := D) (S₇.ext _ _ (S₆.ext _ _ (S₄.ext _ _ hacc₁)))
        refine wpAny_bind (dc_append A σ₇ [.ref acc, w] u' _ hA h₈ ρ₇ s₇ _ _ [.ref D, v₇] R₇ (.cons hacc₇ (.cons V₇ .nil)) fun ρ₈ s₈ v₈ R₈ S₈ _ => ?_)
        exact wpAny_pure (wpAny_pure ⟨rfl, fin ρ₈ s₈ R₈ (((S₄.trans S₆).trans S₇).trans S₈) hm⟩)
end
end Mine

open PySem PySem.W PyProof.Rows
set_option Elab.async false
set_option maxRecDepth 100000
set_option maxHeartbeats 1000000
set_option linter.unusedVariables false
namespace Mine
section
variable {C : Cx} {k : Nat} {env : Env}
theorem src_self {A : Around} {g : Src} {h : Heap} {ρ : Rho} {s : Shared} {Q : Value → Shared → Prop} {E : Value → Shared → Prop} {it : Nat} {its : List Nat} (I : ItR C s.heap ρ it its g) (hq : Q (.ref it) s) : wpAny (model C.prog C.w) A (pyIter (.ref it)) Q E s := by
  cases g with
  | list n i => obtain ⟨rfl, l, hr, hit⟩ := I; exact wpAny_pyIter_listiter hit hq
  | fixed l => obtain ⟨rfl, t, i, items, ht, hit, V⟩ := I; exact wpAny_pyIter_tupleiter hit hq
  | range y left => obtain ⟨rfl, hit⟩ := I; exact wpAny_pyIter_rangeiter hit hq
  | enum n i => obtain ⟨it2, l, old, rfl, hne2, hr, hit, he⟩ := I; exact wpAny_pyIter_enum he hq
def compM (caps : List (Option Nat)) (mi : M Src) (st : AV → M Unit) (mt : M Bool) (me : M AV) : M AV := do
  let g ← mi
  fun σ => match forM' fuel g st (compB σ.hp.length mt me) ⟨σ.hp ++ [.list []], caps.map fun o => (o.bind fun j => σ.lc[j]?).join⟩ with
    | some (.next, σ') => some (.ref σ.hp.length, ⟨σ'.hp, σ.lc⟩)
    | _ => none
/-- what a comprehension sees of the frame around it -/
def Caps (env : Env) (scope : Scope) (cl : List (Str × Addr)) (caps : List (Option Nat)) : Prop :=
  ∀ i j : Nat, caps[i]? = some (some j) → ∃ x kk kk', (relabel scope env).names[i]? = some (x, kk) ∧ (kk = .cell ∨ kk = .free) ∧ env.scope.names[j]? = some (x, kk') ∧ kk' ≠ .local ∧ cl.lookup x = env.cells.lookup x
theorem names_relabel {scope : Scope} {env : Env} : (relabel scope env).names.map (·.1) = scope.names.map (·.1) := by
  simp only [relabel, List.map_map]
  congr 1
  funext x
  obtain ⟨n, kk⟩ := x
  simp only [Function.comp]
  split <;> rfl
theorem comp_core {elt target iter : PySem.Expr} {ifs : List PySem.Expr} {scope : Scope} {cl : List (Str × Addr)} {pos : Pos} {caps : List (Option Nat)} {mi : M Src} {st : AV → M Unit} {mt : M Bool} {me : M AV}
    (hi : DI C k env (eval iter env) mi) (hst : ∀ L, DO1 C k (compEnvC scope cl L env) RU (assign target (compEnvC scope cl L env)) st) (ht : ∀ L, DTs C k (compEnvC scope cl L env) ifs mt) (he : ∀ L, DV C k (compEnvC scope cl L env) (eval elt (compEnvC scope cl L env)) me)
    {P : Src → Prop} (hP : ∀ g g' σ σ' a, nxtM g σ = some (some (a, g'), σ') → P g → P g')
    (hlo : ∀ (A : Around) (ρ : Rho) (s : Shared) (Q : Unit → Shared → Prop) (E : Value → Shared → Prop) (it : Nat) (its : List Nat) (v : Value) (g : Src), P g → ItOut C s.heap ρ it its v g → 
      (∀ h', (∀ b o, b ∉ its → s.heap.get? b = some o → h'.get? b = some o) → ItR C h' ρ it its g → Q () { s with heap := h' }) → wpAny (model C.prog C.w) A (letOwnedTupleGo target (.ref it) v) Q E s)
    (hPg : ∀ σ g σ', mi σ = some (g, σ') → P g) (hfs : ∀ x, foldedSetIterable iter env x = pure x)
    (hclos : closureFor scope env = pure cl) (hcell : ∀ y ∈ scope.names, y.2 ≠ .cell) (hkind : scope.kind = .function) (hnames : ∀ y ∈ scope.names, y.2 = .local → scope.names.lookup y.1 = some .local) (hnd : (scope.names.map (·.1)).Nodup)
    (hcap : Caps env scope cl caps)
    {A : Around} {σ : St} {a : AV} {σ' : St} (hA : AOk k A) (hm : compM caps mi st mt me σ = some (a, σ')) {ρ : Rho} {s : Shared} {Q : Value → Shared → Prop} {E : Value → Shared → Prop} {use : Option (Value → Sem Unit)} (R : Rep C env ρ σ s.heap)
    (h : ∀ (ρ' : Rho) (s' : Shared) (D Cc : Nat) m', Rep C env ρ' σ' s'.heap → Sp env.locals ρ σ s ρ' σ' s' → VRel C.mC s'.heap ρ' a (.ref D) → s'.heap.Ns Cc m' → s.heap.get? Cc = none → env.locals ≠ Cc → (∀ (m a d : Nat), ρ'[m]? = some (a, d) → a ≠ Cc ∧ d ≠ Cc) → C.h₀.get? Cc = none →
      compPost (model C.prog C.w) A E use Q (.ref D) Cc (.ok .next) s') :
    wpAny (model C.prog C.w) A (comprehension (.ListComp elt [⟨target, iter, ifs, 0⟩] scope pos) scope env (firstIterPos [⟨target, iter, ifs, 0⟩] pos) (newList []) false (eval iter env) use) Q E s := by
  obtain ⟨g, σ₁, h₁, hm⟩ := bind_some hm
  replace hm : (match forM' fuel g st (compB σ₁.hp.length mt me) ⟨σ₁.hp ++ [.list []], caps.map fun o => (o.bind fun j => σ₁.lc[j]?).join⟩ with
    | some (.next, σ') => some (AV.ref σ₁.hp.length, (⟨σ'.hp, σ₁.lc⟩ : St))
    | _ => none) = some (a, σ') := hm
  split at hm
  · rename_i σ₂ hrun
    cases hm
    refine wpAny_comprehension_free (use := use) rfl hfs hclos hkind hnames ?_
    refine hi A σ g σ₁ hA h₁ ρ s _ E R fun ρ₁ s₁ it its R₁ S₁ I₁ hl hn => ?_
    refine wpAny_newObj_type (wpAny_newFunctionEnv hcell (by intro y hy; simp at hy) (fun h₄ hns hsb => ?_) hkind)
    dsimp only at hns hsb ⊢
    -- the new list
    have he₂ : ∀ (n : Nat) q, ρ₁[n]? = some q → (ρ₁ ++ [(s₁.heap.objs.size, s₁.heap.objs.size)])[n]? = some q := fun n q e => by rw [List.getElem?_append_left (List.getElem?_eq_some_iff.mp e).1]; exact e
    have R₂ := R₁.alloc { cls := .type "list", dict := none, data := .seq ([] : List Value).toArray } (.list []) R₁.lsize ⟨rfl, [], ⟨0, Heap.get?_push_size _ rfl⟩, .nil⟩
    have S₂ : Sp env.locals ρ σ s (ρ₁ ++ [(s₁.heap.objs.size, s₁.heap.objs.size)]) { σ₁ with hp := σ₁.hp ++ [.list []] } { s₁ with heap := s₁.heap.push { cls := .type "list", dict := none, data := .seq ([] : List Value).toArray }, toks := s₁.toks } := S₁.trans (Sp.alloc _ _ _)
    generalize hH2 : s₁.heap.push { cls := .type "list", dict := none, data := .seq ([] : List Value).toArray } = H2 at hns hsb R₂ S₂ ⊢
    have hk₄ : ∀ b o, H2.get? b = some o → h₄.get? b = some o := fun b o e => hsb.extBut b o (Nat.ne_of_lt (Heap.lt_size e)) (Heap.get?_push_of_some _ e)
    have hfz₄ : ∀ b o, H2.get? b = some o → Frozen o → h₄.get? b = some o := fun b o e _ => hk₄ b o e
    have S₄ : Sp env.locals ρ σ s (ρ₁ ++ [(s₁.heap.objs.size, s₁.heap.objs.size)]) { σ₁ with hp := σ₁.hp ++ [.list []] } { s₁ with heap := h₄, toks := s₁.toks + ([] : List (Str × Value)).length } := S₂.trans (Sp.pushes (s := { s₁ with heap := H2, toks := s₁.toks }) hk₄ _)
    have hCnone : s.heap.get? H2.objs.size = none := not_live_of S₂ (get_size_none H2)
    have hlt₂ : ∀ {n a d : Nat}, (ρ₁ ++ [(s₁.heap.objs.size, s₁.heap.objs.size)])[n]? = some (a, d) → a < H2.objs.size ∧ d < H2.objs.size := fun e => R₂.lt e
    obtain ⟨mm, hmm, hsl⟩ := R₂.ns
    have R₄ : Rep C (compEnvC scope cl H2.objs.size env) (ρ₁ ++ [(s₁.heap.objs.size, s₁.heap.objs.size)]) ⟨σ₁.hp ++ [.list []], caps.map fun o => (o.bind fun j => σ₁.lc[j]?).join⟩ h₄ := {
      base := fun b o e => hk₄ b o (R₂.base b o e)
      above := Nat.le_of_lt (Nat.lt_of_le_of_lt R₂.above R₂.lsize)
      ns := ⟨_, hns, fun i av e => by
        rw [List.getElem?_map] at e
        obtain ⟨o, ho, e⟩ := Option.map_eq_some_iff.mp e
        cases o with
        | none => cases e
        | some j =>
          obtain ⟨x, kk, kk', hx, hkk, hj, hkk', hlk⟩ := hcap i j ho
          have e' : σ₁.lc[j]? = some (some av) := by
            cases q : σ₁.lc[j]? with
            | none => rw [Option.bind_some, q] at e; cases e
            | some r => rw [Option.bind_some, q] at e; rw [show r = some av from e]
          obtain ⟨y, ky, hy, hh⟩ := hsl j av e'
          rw [hj] at hy; cases hy
          rcases hh with ⟨rfl, _⟩ | ⟨_, n, c, rfl, hc, hρ⟩
          · exact absurd rfl hkk'
          · exact ⟨x, kk, hx, .inr ⟨hkk, n, c, rfl, hlk.trans hc, hρ⟩⟩⟩
      len := R₂.len
      objs := fun n o q ho hq => by
        obtain ⟨a, d⟩ := q
        exact (R₂.objs n o _ ho hq).keep hfz₄ (fun _ _ e => e) (fun o e => hk₄ _ o e) (fun o e => hk₄ _ o e)
      fresh := fun n a d e => by
        have h1 := R₂.fresh n a d e
        have h2 := hlt₂ e
        exact ⟨h1.1, h1.2.1, Nat.ne_of_lt h2.1, Nat.ne_of_lt h2.2⟩
      sep := R₂.sep
      names := by show ((relabel scope env).names.map (·.1)).Nodup; rw [names_relabel]; exact hnd
      kind := hkind
      globs := R₁.globs
      blts := R₁.blts }
    have hitl : ∀ b ∈ its, ∃ o, s₁.heap.get? b = some o := I₁.live
    have hits2 : ∀ b ∈ its, b < s₁.heap.objs.size := fun b hb => let ⟨o, ho⟩ := hitl b hb; Heap.lt_size ho
    have hsz2 : H2.objs.size = s₁.heap.objs.size + 1 := by rw [← hH2, Heap.size_push]
    have hk14 : ∀ b o, s₁.heap.get? b = some o → h₄.get? b = some o := fun b o e => hk₄ b o (hH2 ▸ Heap.get?_push_of_some _ e)
    have I₄ : ItR C h₄ (ρ₁ ++ [(s₁.heap.objs.size, s₁.heap.objs.size)]) it its g := I₁.keep (fun b _ o e => hk14 b o e) (fun b o e _ => hk14 b o e) he₂
    have hLits : H2.objs.size ∉ its := fun hb => by have := hits2 _ hb; rw [hsz2] at this; exact Nat.lt_irrefl _ (Nat.lt_of_succ_lt this)
    have hrits : ∀ (m a d : Nat), (ρ₁ ++ [(s₁.heap.objs.size, s₁.heap.objs.size)])[m]? = some (a, d) → a ∉ its ∧ d ∉ its := fun m a d e => by
      by_cases hm' : m < ρ₁.length
      · rw [List.getElem?_append_left hm'] at e; exact hn m a d e
      · rw [List.getElem?_append_right (Nat.le_of_not_lt hm')] at e
        have : m - ρ₁.length = 0 := by
          have := (List.getElem?_eq_some_iff.mp e).1
          simp at this; omega
        rw [this] at e
        simp only [List.getElem?_cons_zero, Option.some.injEq, Prod.mk.injEq] at e
        obtain ⟨rfl, rfl⟩ := e
        exact ⟨fun hb => Nat.lt_irrefl _ (hits2 _ hb), fun hb => Nat.lt_irrefl _ (hits2 _ hb)⟩
    have hacc : (ρ₁ ++ [(s₁.heap.objs.size, s₁.heap.objs.size)])[σ₁.hp.length]? = some (s₁.heap.objs.size, s₁.heap.objs.size) := new_ref R₁
    obtain ⟨mo, hmo, hslo⟩ := R₁.ns
    obtain ⟨oL, hoL⟩ : ∃ o, s₁.heap.get? env.locals = some o := let ⟨o, _, _, p, _⟩ := hmo; ⟨o, p⟩
    have hLlt := Heap.lt_size hoL
    have loop : codeAny (model C.prog C.w) A (.compLoop (.ListComp elt [⟨target, iter, ifs, 0⟩] scope pos) 0 (.ref it) (.ref s₁.heap.objs.size) (compEnvC scope cl H2.objs.size env))
        (compPost (model C.prog C.w) A E use Q (.ref s₁.heap.objs.size) H2.objs.size) { s₁ with heap := h₄, toks := s₁.toks + ([] : List (Str × Value)).length } := by
      refine comp_loop (k := k) (s := { s₁ with heap := h₄, toks := s₁.toks + ([] : List (Str × Value)).length }) (b₀ := env.locals) (o₀ := oL) (hst _) (ht _) (he _) hP hlo hA hrun (hPg _ _ _ h₁) R₄ (S₄.lcs _) hCnone hLits (fun b hb => ?_) I₄ hl hrits hacc
        (hk14 _ _ hoL) (fun hb => ?_) (fun e => ?_) (fun m a d e => ?_) fun ρ' s' _ R' S' hoL' hb3 hx' hz' => ?_
      · cases q : C.h₀.get? b with
        | none => rfl
        | some o => have := R.base b o q; rw [hl b hb] at this; cases this
      · obtain ⟨mR, ⟨o, es, ep, p, _⟩, _⟩ := R.ns
        rw [hl _ hb] at p; cases p
      · have := hLlt
        rw [show env.locals = H2.objs.size from e, hsz2] at this
        exact Nat.lt_irrefl _ (Nat.lt_of_succ_lt this)
      · have := R₂.fresh m a d e
        exact ⟨this.2.2.1, this.2.2.2⟩
      · obtain ⟨m', hm', hsl'⟩ := R'.ns
        have hlc : ∀ b o, s.heap.get? b = some o → b ≠ H2.objs.size := fun b o e e' => by rw [e', hCnone] at e; cases e
        have hLC : env.locals ≠ H2.objs.size := fun e => by
          have := hLlt
          rw [e, hsz2] at this
          exact Nat.lt_irrefl _ (Nat.lt_of_succ_lt this)
        have hC0 : C.h₀.get? H2.objs.size = none := by
          cases q : C.h₀.get? H2.objs.size with
          | none => rfl
          | some o => have := R.base _ o q; rw [hCnone] at this; cases this
        refine h ρ' s' s₁.heap.objs.size H2.objs.size m' ?_ ?_ (.ref (hx' _ _ hacc)) hm' hCnone hLC (fun m a d e => ⟨(R'.fresh m a d e).2.2.1, (R'.fresh m a d e).2.2.2⟩) hC0
        · exact {
            base := R'.base
            above := R.above
            ns := ⟨mo, ns_keep hmo (fun o e => by rw [hoL] at e; cases e; exact hoL'), fun i av e => (hslo i av e).mono (fun b o e hf => hz' b o (hk14 b o e) hf) (fun n q e => hx' n q (he₂ n q e))⟩
            len := R'.len
            objs := R'.objs
            fresh := fun n a d e => by
              have h1 := R'.fresh n a d e
              have h2 := hb3 n a d e
              exact ⟨h1.1, h1.2.1, h2.1, h2.2⟩
            sep := R'.sep
            names := R.names
            kind := R.kind
            globs := R.globs
            blts := R.blts }
        · exact {
            ext := S'.ext
            keep := S'.keep
            frz := S'.frz
            new := S'.new
            live := S'.live
            lock := S'.lock
            os := S'.os
            gens := S'.gens }
    refine codeAny_compStart_list loop (src_self (h := h₄) (ρ := ρ₁ ++ [(s₁.heap.objs.size, s₁.heap.objs.size)]) (s := { s₁ with heap := h₄, toks := s₁.toks + ([] : List (Str × Value)).length }) I₄ loop)
  · cases hm
theorem den_listcomp {elt target iter : PySem.Expr} {ifs : List PySem.Expr} {scope : Scope} {cl : List (Str × Addr)} {pos : Pos} {caps : List (Option Nat)} {mi : M Src} {st : AV → M Unit} {mt : M Bool} {me : M AV}
    (hi : DI C k env (eval iter env) mi) (hst : ∀ L, DO1 C k (compEnvC scope cl L env) RU (assign target (compEnvC scope cl L env)) st) (ht : ∀ L, DTs C k (compEnvC scope cl L env) ifs mt) (he : ∀ L, DV C k (compEnvC scope cl L env) (eval elt (compEnvC scope cl L env)) me)
    {P : Src → Prop} (hP : ∀ g g' σ σ' a, nxtM g σ = some (some (a, g'), σ') → P g → P g')
    (hlo : ∀ (A : Around) (ρ : Rho) (s : Shared) (Q : Unit → Shared → Prop) (E : Value → Shared → Prop) (it : Nat) (its : List Nat) (v : Value) (g : Src), P g → ItOut C s.heap ρ it its v g → 
      (∀ h', (∀ b o, b ∉ its → s.heap.get? b = some o → h'.get? b = some o) → ItR C h' ρ it its g → Q () { s with heap := h' }) → wpAny (model C.prog C.w) A (letOwnedTupleGo target (.ref it) v) Q E s)
    (hPg : ∀ σ g σ', mi σ = some (g, σ') → P g) (hfs : ∀ x, foldedSetIterable iter env x = pure x)
    (hclos : closureFor scope env = pure cl) (hcell : ∀ y ∈ scope.names, y.2 ≠ .cell) (hkind : scope.kind = .function) (hnames : ∀ y ∈ scope.names, y.2 = .local → scope.names.lookup y.1 = some .local) (hnd : (scope.names.map (·.1)).Nodup)
    (hcap : Caps env scope cl caps) :
    DV C k env (eval (.ListComp elt [⟨target, iter, ifs, 0⟩] scope pos) env) (compM caps mi st mt me) := by
  intro A σ a σ' hA hm ρ s Q E R h
  rw [eval_ListComp]
  refine comp_core (use := none) hi hst ht he hP hlo hPg hfs hclos hcell hkind hnames hnd hcap hA hm R fun ρ' s' D Cc m' R' S' V' hns hC hL hr h0 => ?_
  refine ⟨m', hns, fun h' hs' => ?_⟩
  have hk : ∀ b o, b ∉ [Cc] → s'.heap.get? b = some o → h'.get? b = some o := fun b o hb e => hs'.extBut b o (by simpa using hb) e
  have hnf : ∀ b ∈ [Cc], ∀ o, s'.heap.get? b = some o → ¬ Frozen o := fun b hb o e => notFrozen_ns hns o (by rw [← List.mem_singleton.mp hb]; exact e)
  refine h ρ' { s' with heap := h' } _ (R'.its hk (by simpa using hL) (fun b hb => by rw [List.mem_singleton.mp hb]; exact h0) (fun m a d e => by simpa using hr m a d e) hnf) (S'.its (fun b hb => by rw [List.mem_singleton.mp hb]; exact hC) hk rfl rfl) ?_
  exact V'.mono (fun b o e hf => hk b o (fun hb => hnf b hb o e hf) e) (fun _ _ e => e)
/-- a comprehension stored at once under a name -/
theorem ds_assign_comp {y : Str} {py spos : Pos} (j : Nat) (hj : env.scope.names[j]? = some (y, .local)) {elt target iter : PySem.Expr} {ifs : List PySem.Expr} {scope : Scope} {cl : List (Str × Addr)} {pos : Pos} {caps : List (Option Nat)} {mi : M Src} {st : AV → M Unit} {mt : M Bool} {me : M AV}
    (hi : DI C k env (eval iter env) mi) (hst : ∀ L, DO1 C k (compEnvC scope cl L env) RU (assign target (compEnvC scope cl L env)) st) (ht : ∀ L, DTs C k (compEnvC scope cl L env) ifs mt) (he : ∀ L, DV C k (compEnvC scope cl L env) (eval elt (compEnvC scope cl L env)) me)
    {P : Src → Prop} (hP : ∀ g g' σ σ' a, nxtM g σ = some (some (a, g'), σ') → P g → P g')
    (hlo : ∀ (A : Around) (ρ : Rho) (s : Shared) (Q : Unit → Shared → Prop) (E : Value → Shared → Prop) (it : Nat) (its : List Nat) (v : Value) (g : Src), P g → ItOut C s.heap ρ it its v g → 
      (∀ h', (∀ b o, b ∉ its → s.heap.get? b = some o → h'.get? b = some o) → ItR C h' ρ it its g → Q () { s with heap := h' }) → wpAny (model C.prog C.w) A (letOwnedTupleGo target (.ref it) v) Q E s)
    (hPg : ∀ σ g σ', mi σ = some (g, σ') → P g) (hfs : ∀ x, foldedSetIterable iter env x = pure x)
    (hclos : closureFor scope env = pure cl) (hcell : ∀ y ∈ scope.names, y.2 ≠ .cell) (hkind : scope.kind = .function) (hnames : ∀ y ∈ scope.names, y.2 = .local → scope.names.lookup y.1 = some .local) (hnd : (scope.names.map (·.1)).Nodup)
    (hcap : Caps env scope cl caps)
    (hsw : swapsWith (.ListComp elt [⟨target, iter, ifs, 0⟩] scope pos) (some (.Name y py)) spos.line env = pure true) :
    DS C k env (exec (.Assign [.Name y py] (.ListComp elt [⟨target, iter, ifs, 0⟩] scope pos) spos) env) (do let a ← compM caps mi st mt me; stM j a; pure .next) := by
  intro A σ a σ' hA hm ρ s Q E R h
  obtain ⟨x, σ₁, h₁, hm⟩ := bind_some hm
  obtain ⟨u, σ₂, h₂, hm⟩ := bind_some hm
  obtain ⟨rfl, rfl⟩ := pure_some hm
  rw [exec_Assign_Name_used _ _ _ _ hsw]
  refine wpAny_bind (wpAny_standAt (wpAny_bind ?_))
  show wpAny _ A (do let _ ← comprehension (.ListComp elt [⟨target, iter, ifs, 0⟩] scope pos) scope env _ (newList []) false (eval iter env) (some (assign (.Name y py) env))) _ _ s
  refine wpAny_bind (wpAny_mono (comp_core (use := some (assign (.Name y py) env)) (Q := fun _ s' => Q .next s') hi hst ht he hP hlo hPg hfs hclos hcell hkind hnames hnd hcap hA h₁ R fun ρ' s' D Cc m' R' S' V' hns hC hL hr h0 => ?_) (fun _ s' hq => wpAny_pure (wpAny_pure hq)) fun _ _ e => e)
  show wpAny _ A (assign (.Name y py) env (.ref D)) _ _ _
  refine da_name (pos := py) j hj A σ₁ x u _ hA h₂ ρ' s' _ E (.ref D) R' V' fun ρ₂ s₂ _ R₂ S₂ _ => ?_
  have hCl : ∃ o, s'.heap.get? Cc = some o := let ⟨o, _, _, p, _⟩ := hns; ⟨o, p⟩
  have hfoot : ¬ foot ρ' σ₁ Cc := by
    rintro ⟨n, a, d, e, _, hb⟩
    have := hr n a d e
    rcases hb with hb | hb
    · exact this.1 hb.symm
    · exact this.2 hb.symm
  have hns₂ : s₂.heap.Ns Cc m' := ns_keep hns (fun o e => S₂.keep _ o e hfoot (Ne.symm hL))
  have hr₂ : ∀ (m a d : Nat), ρ₂[m]? = some (a, d) → a ≠ Cc ∧ d ≠ Cc := fun m a d e => by
    by_cases hlt : m < ρ'.length
    · have e1 : ρ'[m]? = some ρ'[m] := List.getElem?_eq_getElem hlt
      have e2 := S₂.ext m _ e1
      rw [e] at e2
      exact hr m a d (by rw [e1, ← e2])
    · obtain ⟨o, ho⟩ := hCl
      have hnew := S₂.new m a d (Nat.le_of_not_lt hlt) e
      exact ⟨fun q => (by rw [← q, hnew.1] at ho; cases ho), fun q => (by rw [← q, hnew.2] at ho; cases ho)⟩
  refine ⟨m', hns₂, fun h' hs' => ?_⟩
  have hk : ∀ b o, b ∉ [Cc] → s₂.heap.get? b = some o → h'.get? b = some o := fun b o hb e => hs'.extBut b o (by simpa using hb) e
  have hnf : ∀ b ∈ [Cc], ∀ o, s₂.heap.get? b = some o → ¬ Frozen o := fun b hb o e => notFrozen_ns hns₂ o (by rw [← List.mem_singleton.mp hb]; exact e)
  exact h ρ₂ { s₂ with heap := h' } _ (R₂.its hk (by simpa using hL) (fun b hb => by rw [List.mem_singleton.mp hb]; exact h0) (fun m a d e => by simpa using hr₂ m a d e) hnf) ((S'.trans S₂).its (fun b hb => by rw [List.mem_singleton.mp hb]; exact hC) hk rfl rfl) .next
end
end Mine

open PySem PySem.W PyProof.Rows
set_option Elab.async false
set_option maxRecDepth 100000
set_option maxHeartbeats 1000000
set_option linter.unusedVariables false
namespace Mine
theorem check_fn {M : Model} {A : Around} {E : Value → Shared → Prop} {s : Shared} {id : String} {args : Args} {Q : Unit → Shared → Prop} (hk : builtinKind id = none) (ha : argsOk id args) (q : Q () s) : wpAny M A (checkBuiltinCall id args) Q E s := by
  simp only [checkBuiltinCall, hk]
  cases hsig : Manifest.signature? id with
  | none => exact wpAny_pure q
  | some sig =>
    have ha' : Bind.checkArgs id sig args = pure () := by simpa only [argsOk, hsig] using ha
    simp only [ha']
    exact wpAny_pure q
theorem tget_kind : builtinKind "tuple.__getitem__" = some .slot := by decide +kernel
theorem tget_split : splitId "tuple.__getitem__" = some ("tuple", "__getitem__") := by decide +kernel
theorem chk_tget {M : Model} {A : Around} {E : Value → Shared → Prop} {s : Shared} {x y : Value} {Q : Unit → Shared → Prop} (hi : Looks M s.heap (isInstance x (.type "tuple")) true) (q : Q () s) :
    wpAny M A (checkBuiltinCall "tuple.__getitem__" ⟨[x, y], []⟩) Q E s :=
  check_slot (i := "tuple.__getitem__") (owner := "tuple") (n := "__getitem__") (self := x) (rest := [y]) (kw := []) tget_kind tget_split hi (args_tuple_getitem x y) q
theorem seqIdx {i : Int} {n : Nat} (h0 : 0 ≤ i) (h1 : i.toNat < n) : seqIndex? i n = some i.toNat := by
  unfold seqIndex?
  have : ¬ i < 0 := by omega
  simp only [this, if_false]
  rw [if_pos (by simp; omega)]
section
variable {C : Cx} {k : Nat} {env : Env} {fN : Addr}
/-! type(x), issubclass, tuple.__getitem__ of a Match -/
def typM (C : Cx) : List AV → M AV
  | [.mat _] => pure (.st (.ref C.mC))
  | _ => fun _ => none
theorem dc_type : DC C k env (RV C) (fun vs => call (.type "type") vs) (typM C) := by
  intro A σ l a σ' hA hm ρ s Q E vs R V h
  unfold typM at hm
  split at hm
  · obtain ⟨rfl, rfl⟩ := pure_some hm
    cases V with
    | cons x V => cases V with
      | nil => cases x with
        | mat ht hs =>
          obtain ⟨hp, g, d, t, os⟩ := s
          exact call_type_obj ht rfl (h ρ _ _ R (Sp.refl _ _ _ _) (.st _))
  · cases hm
def subM' (C : Cx) : List AV → M AV
  | [.st v, .st (.type "tuple")] => fun σ => if v = .ref C.mC then some (.bool true, σ) else none
  | _ => fun _ => none
theorem dc_issub (O : MatchOK C fN) : DC C k env (RV C) (fun vs => call (.builtin "issubclass") vs) (subM' C) := by
  intro A σ l a σ' hA hm ρ s Q E vs R V h
  unfold subM' at hm
  split at hm
  · split at hm
    · rename_i hv
      subst hv
      cases hm
      cases V with
      | cons x V => cases V with
        | cons y V => cases V with
          | nil => cases x with
            | st _ => cases y with
              | st _ =>
                have hb : ∀ b o, C.h₀.get? b = some o → s.heap.get? b = some o := fun b o e => R.base b o e
                have hh := h ρ s (.bool true) R (Sp.refl _ _ _ _) (.bool true)
                obtain ⟨hp, g, d, t, os⟩ := s
                have sub := O.subT.keeps hb
                have isT := O.isT.keeps hb
                have isT2 : Looks (model C.prog C.w) hp (isType (.type "tuple")) true := Looks.of_pure (by first | rfl | kernel_rfl)
                have ty : Looks (model C.prog C.w) hp (typeOf (.type "tuple")) (.type "type") := Looks.of_pure (by first | rfl | kernel_rfl)
                refine wpAny_call (codeAny_call_builtin PySem.F.plain_issubclass PySem.F.entry_issubclass (check_fn PySem.F.kind_issubclass (PySem.F.args_issubclass_2 _ _) ?_))
                unfold Builtin.«issubclass»
                refine wpAny_bind (wpAny_pure ?_)
                refine wpAny_pure ⟨Code.quiet_builtin _ (by decide +kernel), codeAny_builtin PySem.F.entry_issubclass_nested ?_⟩
                rw [Around.under_plain (show (Code.builtin "issubclass.nested" ⟨[.ref C.mC, .type "tuple", rawInt 0], []⟩).weight = 0 from rfl) rfl]
                unfold Builtin.«issubclass.nested»
                refine wpAny_bind (ty.at ?_)
                rw [if_pos (by rfl)]
                refine wpAny_bind (wpAny_bind (isT.at (wpAny_bind (isT2.at ?_))))
                rw [if_pos (show (true && true) = true from rfl)]
                exact sub.at (wpAny_pure hh)
    · cases hm
  · cases hm
def tgetM : List AV → M AV
  | [.mat l, .int i] => fun σ => if l.length ≤ lim ∧ 0 ≤ i then (l[i.toNat]?).map fun a => (a, σ) else none
  | _ => fun _ => none
theorem dc_tget (O : MatchOK C fN) : DC C k env (RV C) (fun vs => call (.builtin "tuple.__getitem__") vs) tgetM := by
  intro A σ l a σ' hA hm ρ s Q E vs R V h
  unfold tgetM at hm
  split at hm
  · split at hm
    · rename_i l' i hc
      obtain ⟨x, hx, hm⟩ := Option.map_eq_some_iff.mp hm
      cases hm
      cases V with
      | cons x V => cases V with
        | cons y V => cases V with
          | nil => cases x with
            | mat ht hs => cases y with
              | int _ t =>
                rename_i a₁ dd its
                have hb : ∀ b o, C.h₀.get? b = some o → s.heap.get? b = some o := fun b o e => R.base b o e
                obtain ⟨v, hv, hV⟩ := (hs.get i.toNat).1 _ hx
                have hlen := hs.length
                have hlt : i.toNat < l'.length := (List.getElem?_eq_some_iff.mp hx).1
                have hh := h ρ s v R (Sp.refl _ _ _ _) hV
                obtain ⟨hp, g, d, tk, os⟩ := s
                have sub := O.subT.keeps hb
                have t1 : Looks (model C.prog C.w) hp (typeOf (.ref a₁)) (.ref C.mC) := (Looks.ld ht).andThen .now
                have t2 : Looks (model C.prog C.w) hp (isInstance (.ref a₁) (.type "tuple")) true := t1.andThen sub
                have hargs := args_tuple_getitem (.ref a₁) (.int i t)
                have hpl : plainId "tuple.__getitem__" = true := slot_tuple_getitem.plain
                have hen := entry_tuple_getitem
                refine wpAny_call (codeAny_call_builtin hpl hen ?_)
                refine chk_tget t2 ?_
                unfold Builtin.«tuple.__getitem__»
                refine wpAny_bind (wpAny_pure ?_)
                refine wpAny_bind (wpAny_tupleItemsOf (o := { cls := .ref C.mC, dict := dd, data := .seq its.toArray }) ht rfl ?_)
                have f1 := AutoSeq1.idx_int
                have hl2 : its.length = l'.length := hlen.symm
                have hlim : l'.length ≤ 1000000 := hc.1
                have hk : seqIndex? i its.toArray.size = some i.toNat := seqIdx hc.2 (by simp; omega)
                have hy : its.toArray[i.toNat]? = some v := by simpa using hv
                have hf : ¬ (decide (i < -2 ^ 63) || decide (i ≥ 2 ^ 63)) = true := by simp; omega
                wp_walk
                simp only [hk, hy, Option.bind_some]
                refine wpAny_ite_false (by simp; omega) ?_
                wp_walk
                exact hh
    · cases hm
  · cases hm
end
end Mine

open PySem PySem.W PyProof.Rows
set_option Elab.async false
set_option maxRecDepth 100000
set_option maxHeartbeats 1000000
set_option linter.unusedVariables false
namespace Mine
open Builtin Builtin.ObjectAttr in
theorem looks_data {K : Frag} {M : Model} {h : Heap} (X : K.In h) {x C : Addr} {name : Str} {a g : Value} (ha : findIn K (.ref C) name = some (some a)) (hg : specialIn K a "__get__" = some (some g)) (ht : takesIn K a = some true) :
    Looks M h (find (.ref x) (.ref C) name) (.bind g a) :=
  (looks_findIn X ha).andThen ((show Looks M h (getOf (some a)) (some g) from looks_specialIn X hg).andThen ((show Looks M h (dataDescriptor? (some a) (some g)) (some (g, a)) from (looks_takesIn X ht).andThen .now).andThen (Looks.tag .now)))
theorem tga_kind : builtinKind "tuple.__getattribute__" = some .slot := by decide +kernel
theorem tga_split : splitId "tuple.__getattribute__" = some ("tuple", "__getattribute__") := by decide +kernel
theorem chk_tga {M : Model} {A : Around} {E : Value → Shared → Prop} {s : Shared} {x y : Value} {Q : Unit → Shared → Prop} (hi : Looks M s.heap (isInstance x (.type "tuple")) true) (q : Q () s) :
    wpAny M A (checkBuiltinCall "tuple.__getattribute__" ⟨[x, y], []⟩) Q E s :=
  check_slot (i := "tuple.__getattribute__") (owner := "tuple") (n := "__getattribute__") (self := x) (rest := [y]) (kw := []) tga_kind tga_split hi (F.args_tuple_getattribute_2 x y) q
open Builtin Builtin.ObjectAttr in
theorem get_data {prog : Program} {w : World} {A : Around} {E : Value → Shared → Prop} {s : Shared} {K : Frag} {x C : Addr} {ox : Obj} {name : Str} {expr : Bool} {Q : Value → Shared → Prop} {g a : Value} (X : K.In s.heap) (hx : s.heap.get? x = some ox) (hcl : ox.cls = .ref C)
    (hga : findIn K (.ref C) "__getattribute__" = some (some (.builtin "tuple.__getattribute__"))) (hk : findIn K (.ref C) "__getattr__" = some none) (sub : Looks (model prog w) s.heap (isSubtype (.ref C) (.type "tuple")) true)
    (ha : findIn K (.ref C) name = some (some a)) (hg : specialIn K a "__get__" = some (some g)) (ht : takesIn K a = some true)
    (h : ∀ E', wpAny (model prog w) A.in1 (call g [a, .ref x, .ref C]) (fun v s' => wpAny (model prog w) A (handedOut v) Q E s') E' { s with toks := s.toks + 1 }) :
    wpAny (model prog w) A (getAttr (.ref x) name expr) Q E s := by
  obtain ⟨hh, gg, d, t, os⟩ := s
  have L0 : Looks (model prog w) hh (typeOf (.ref x)) (.ref C) := hcl ▸ (Looks.ld hx).andThen .now
  have L1 := looks_findIn (M := model prog w) X hga
  have L3 := looks_data (M := model prog w) (x := x) X ha hg ht
  have L4 := looks_findIn (M := model prog w) X hk
  have L5 : Looks (model prog w) hh (isInstance (.ref x) (.type "tuple")) true := L0.andThen sub
  unfold getAttr getAttrBy
  refine wpAny_bind (wpAny_mkText (wpAny_holding (wpAny_bind (L0.at (wpAny_bind (L1.at ?_))))))
  show wpAny _ _ (getAttrByItsOwn _ _ _ _ _ _) _ _ _
  unfold getAttrByItsOwn
  refine wpAny_bind ?_
  show wpAny _ _ (typeLookup (.ref C) "__getattr__") _ _ _
  refine L4.at ?_
  refine wpAny_bind (wpAny_attempt (wpAny_holding ?_))
  show wpAny _ _ (if (expr && onTheHeap (.builtin "tuple.__getattribute__")) = true then _ else _) _ _ _
  rw [if_neg (by cases expr <;> decide)]
  unfold boundAndCalled
  rw [F.slot_tuple_getattribute.bind (.ref x)]
  refine wpAny_bind (wpAny_pure ?_)
  refine wpAny_call (codeAny_call_builtin F.slot_tuple_getattribute.plain am_entry_tuple_getattribute ?_)
  refine chk_tga L5 ?_
  unfold Builtin.«object.__getattribute__»
  refine wpAny_bind (wpAny_pure (wpAny_bind (wpAny_pure (wpAny_bind (L0.at (wpAny_bind (L3.at ?_)))))))
  show wpAny _ _ (holding [a] (call g [a, .ref x, .ref C]) >>= ret) _ _ _
  exact wpAny_bind (wpAny_holding (wpAny_mono (h _) (fun v s' z => wpAny_pure z) fun _ _ z => z))
section
variable {C : Cx} {k : Nat} {env : Env} {fN : Addr}
def mattrM (C : Cx) (d : Value) (g : List AV → M AV) : AV → M AV
  | .mat l => fun σ => match g [.st d, .mat l, .st (.ref C.mC)] σ with
    | some (r, σ') => if hOk r then some (r, σ') else none
    | none => none
  | _ => fun _ => none
theorem AOk.in1 {A : Around} (h : AOk (k + 1) A) : AOk k A.in1 := ⟨h.1, by have := h.2.1; show A.depth + 2 * k ≤ 400; omega, by have := h.2.2; show A.units + 1 + 40 * k ≤ 1000; omega⟩
/-- a Match's attribute: the class's own descriptor is asked -/
theorem den_mattr {value : PySem.Expr} {x : Str} {pos : Pos} {m : M AV} {d f : Value} {g : List AV → M AV} (he : DV C (k + 1) env (eval value env) m) (hb : attributeBase value x env (eval value env) = eval value env)
    (O : MatchOK C fN) (hga : findIn C.K (.ref C.mC) "__getattribute__" = some (some (.builtin "tuple.__getattribute__"))) (hk : findIn C.K (.ref C.mC) "__getattr__" = some none)
    (ha : findIn C.K (.ref C.mC) x = some (some d)) (hg : specialIn C.K d "__get__" = some (some f)) (ht : takesIn C.K d = some true) (G : DCode C k env f g) :
    DV C (k + 1) env (eval (.Attribute value x pos) env) (do let a ← m; mattrM C d g a) := by
  intro A σ a σ' hA hm ρ s Q E R h
  obtain ⟨y, σ₁, hy, hm⟩ := bind_some hm
  show wpAny _ _ (do
    let o ← attributeBase value x env (eval value env)
    standAt pos.atName
    let r ← holding [o] (getAttr o x true)
    letTemporaryGo value o r
    pure r) _ _ _
  rw [hb]
  refine wpAny_bind (he A σ y σ₁ hA hy ρ s _ E R fun ρ₁ s₁ v₁ R₁ S₁ V₁ => wpAny_bind (wpAny_standAt (wpAny_bind (wpAny_holding ?_))))
  unfold mattrM at hm
  split at hm
  · rename_i l
    split at hm
    · rename_i r σ₂ hr
      split at hm
      · rename_i hok
        cases hm
        cases V₁ with
        | mat htm hs =>
          rename_i a₁ dd its
          have V₁ : VRel C.mC s₁.heap ρ₁ (.mat l) (.ref a₁) := .mat htm hs
          refine get_data (fun a o e => R₁.base _ _ (C.X a o e)) htm rfl hga hk (O.subT.keeps (fun b o e => R₁.base b o e)) ha hg ht fun E' => ?_
          refine (G.dc) A.in1 σ₁ [.st d, .mat l, .st (.ref C.mC)] a _ hA.in1 hr ρ₁ { s₁ with toks := s₁.toks + 1 } _ _ [d, .ref a₁, .ref C.mC] R₁ (.cons (.st _) (.cons V₁ (.cons (.st _) .nil))) fun ρ' s' v R' S' V' => ?_
          rw [handedOut_of (handed_of V' hok)]
          refine wpAny_pure (wpAny_bind (wpAny_letTemporaryGo (wpAny_pure ?_)))
          exact h ρ' s' v R' ((S₁.trans (Sp.toks _)).trans S') V'
      · cases hm
    · cases hm
  · cases hm
/-- an attribute of an object of the module that no call writes -/
structure SAttr (K : Frag) (name : Str) (v r : Value) : Prop where
  is : ∃ x ox gC dd es n attr, v = .ref x ∧ K.lookup x = some ox ∧ ox.cls = .ref gC ∧ notCls ox = true ∧ ox.dict = some dd ∧ K.lookup dd = some (dictOf es n) ∧ plainGet K gC name = true ∧ hasDictIn K gC = true ∧ findIn K (.ref gC) name = some attr ∧ noGet K attr = true ∧ getL name es = some (some r) ∧ handedIn r = true
def sattrM (F : Value → Option Int) : AV → M AV
  | .st v => fun σ => (F v).map fun i => (.int i, σ)
  | _ => fun _ => none
theorem den_sattr {value : PySem.Expr} {x : Str} {pos : Pos} {m : M AV} {F : Value → Option Int} (he : DV C k env (eval value env) m) (hb : attributeBase value x env (eval value env) = eval value env)
    (hF : ∀ v i, F v = some i → ∃ t, SAttr C.K x v (.int i t)) :
    DV C k env (eval (.Attribute value x pos) env) (do let a ← m; sattrM F a) := by
  intro A σ a σ' hA hm ρ s Q E R h
  obtain ⟨y, σ₁, hy, hm⟩ := bind_some hm
  show wpAny _ _ (do
    let o ← attributeBase value x env (eval value env)
    standAt pos.atName
    let r ← holding [o] (getAttr o x true)
    letTemporaryGo value o r
    pure r) _ _ _
  rw [hb]
  refine wpAny_bind (he A σ y σ₁ hA hy ρ s _ E R fun ρ₁ s₁ v₁ R₁ S₁ V₁ => wpAny_bind (wpAny_standAt (wpAny_bind (wpAny_holding ?_))))
  unfold sattrM at hm
  split at hm
  · rename_i v
    obtain ⟨i, hi, hm⟩ := Option.map_eq_some_iff.mp hm
    cases hm
    cases V₁ with
    | st _ =>
      obtain ⟨t, ⟨x', ox, gC, dd, es, n, attr, rfl, h1, h2, h3, h4, h5, h6, h7, h8, h9, h10, h11⟩⟩ := hF _ i hi
      have X : C.K.In s₁.heap := fun a o e => R₁.base _ _ (C.X a o e)
      obtain ⟨mm, hns, _⟩ := R₁.ns
      have I : InstAt s₁.heap x' ox gC (some (dictOf es n)) := ⟨X _ _ h1, h2, h3, by rw [h4]; exact X _ _ h5⟩
      refine get_own (R₁.fr hns) C.X I h6 h7 h8 h9 h10 h11 ?_
      refine wpAny_bind (wpAny_letTemporaryGo (wpAny_pure ?_))
      exact h ρ₁ { s₁ with toks := s₁.toks + 1 } _ R₁ (S₁.trans (Sp.toks _)) (.int _ _)
  · cases hm
end
end Mine

open PySem PySem.W PyProof.Rows
set_option Elab.async false
set_option maxRecDepth 100000
set_option maxHeartbeats 1000000
set_option linter.unusedVariables false
namespace Mine
def hitsM (hp : List AO) (lb : List (Int × AV)) : List (Int × AV) → Option Bool
  | [] => some true
  | (k, v) :: r => match getD lb k with
    | none => some false
    | some y => (eqAV hp 38 v y).bind fun e => (hitsM hp lb r).map (e && ·)
def neDM (a b : AV) : M Bool := match a, b with
  | .ref n, .ref m => fun σ => match σ.hp[n]?, σ.hp[m]? with
    | some (.dict l), some (.dict l') => (hitsM σ.hp l' l).map fun r => (!(l.length == l'.length && r), σ)
    | _, _ => none
  | _, _ => fun _ => none
section
variable {C : Cx} {k : Nat} {env : Env}
theorem hits_rel {ρ : Rho} {σ : St} {s : Shared} {A : Around} (R : Rep C env ρ σ s.heap) (hu : A.units + 38 < cLine) {lb : List (Int × AV)} {kb : List (Int × Value)} (hb : PairsR C.mC s.heap ρ lb kb) : ∀ {l : List (Int × AV)} {ka : List (Int × Value)} {r : Bool},
    PairsR C.mC s.heap ρ l ka → hitsM σ.hp lb l = some r → KeqHits A s kb ka r := by
  intro l ka r ha
  revert r
  refine PairsR.ind (mC := C.mC) (h := s.heap) (ρ := ρ) (P := fun l ka => ∀ {r : Bool}, hitsM σ.hp lb l = some r → KeqHits A s kb ka r) ?_ ?_ ha
  · intro r e; cases e; exact .nil
  · intro x a v l kvs V _ ih r e
    simp only [hitsM] at e
    have hg := hb.get x
    cases q : getD lb x with
    | none => rw [q] at e; cases e; exact .miss (hg.1 q)
    | some y =>
      rw [q] at e
      obtain ⟨z, hz, e⟩ := Option.bind_eq_some_iff.mp e
      obtain ⟨z', hz', rfl⟩ := Option.map_eq_some_iff.mp e
      obtain ⟨w, hw, W⟩ := hg.2 y q
      exact .hit hw (eqAV_at R 38 A a y v w z hu V W hz) (ih hz')
theorem do_neD : DO2 C k env RC (compareOp .NotEq) neDM := by
  intro A σ a b r σ' hA hm ρ s Q E va vb R Va Vb h
  unfold neDM at hm
  split at hm
  · split at hm
    · rename_i l l' hl hl'
      obtain ⟨r', hr, e⟩ := Option.map_eq_some_iff.mp hm
      cases e
      cases Va with
      | ref hra =>
        cases Vb with
        | ref hrb =>
          obtain ⟨a₁, d₁, hq, rfl, kvs, hD, hP⟩ := R.at hl
          rw [hra] at hq; cases hq
          obtain ⟨a₂, d₂, hq, rfl, kvs', hD', hP'⟩ := R.at hl'
          rw [hrb] at hq; cases hq
          have hu := hA.2.2
          refine keq_ne (R.notSys hra) (R.notSys hrb) hD hD' (by unfold cLine; omega) (fun _ => hits_rel R (by show A.units + 1 + 38 < cLine; unfold cLine; omega) hP' hP hr) ?_
          rw [← hP.length, ← hP'.length]
          exact h ρ s _ R (Sp.refl _ _ _ _) rfl
    · cases hm
  · cases hm
/-- a tuple of ints that the module keeps -/
theorem den_globT {x : Str} {pos : Pos} {a : Addr} {its : List Value} {ns : List Int} (hn : nsIn C.K mainGlobals x = some (some (.ref a))) (ht : C.K.lookup a = some { cls := .type "tuple", data := .seq its.toArray }) (hi : IntsAre its ns)
    (hk : env.kindOf x = some .globalImplicit) (hd : (x == ("__debug__" : Str)) = false) : DV C k env (eval (.Name x pos) env) (pure (.tup (ns.map .int))) := by
  intro A σ b σ' hA hm ρ s Q E R h
  obtain ⟨rfl, rfl⟩ := pure_some hm
  refine den_glob (C := C) (k := k) (.ref a) hn hk hd A σ (.st (.ref a)) σ hA rfl ρ s Q E R fun ρ' s' v R' S' V' => ?_
  cases V'
  exact h ρ' s' _ R' S' (.tup (its := its) (R'.base _ _ (C.X _ _ ht)) (intsAre_rel hi))
end
end Mine

open PySem PySem.W PyProof.Rows
set_option Elab.async false
set_option maxRecDepth 100000
set_option maxHeartbeats 1000000
set_option linter.unusedVariables false
namespace Mine
section
variable {C : Cx} {k : Nat} {env : Env}
theorem ds_expr {e : PySem.Expr} {pos : Pos} {m : M AV} (he : DV C k env (eval e env) m) (hi : interactive env = false) (hs : swapsWith e none pos.line env = pure false) : DS C k env (exec (.Expr e pos) env) (do let _ ← m; pure .next) := by
  intro A σ a σ' hA hm ρ s Q E R h
  obtain ⟨x, σ₁, h₁, hm⟩ := bind_some hm
  obtain ⟨rfl, rfl⟩ := pure_some hm
  exact wpAny_Expr_any (he A σ x _ hA h₁ ρ s _ E R fun ρ₁ s₁ v₁ R₁ S₁ V₁ => h ρ₁ s₁ _ R₁ S₁ .next) hi hs
theorem den_str' {x : Str} {kk pos} : DV C k env (eval (.Constant (.str x) kk pos) env) (pure (.str x)) := by
  intro A σ a σ' hA hm ρ s Q E R h
  obtain ⟨rfl, rfl⟩ := pure_some hm
  exact wpAny_Constant_str (h ρ _ _ R (Sp.toks _) (.str _ _))
theorem DCode.mono {k' : Nat} {f : Value} {g : List AV → M AV} (h : DCode C k env f g) (hk : k ≤ k') : DCode C k' env f g :=
  fun A σ l a σ' hA hm => h A σ l a σ' (hA.mono hk) hm
theorem ds_for_enum {elts : List PySem.Expr} {x1 : Nat} {px : Pos} {iter : PySem.Expr} {body : List Stmt} {pos : Pos} {mi : M Src} {st : AV → M Unit} {mb : M Fl} (hst : DO1 C k env RU (assign (.Tuple elts x1 px) env) st) (hi : DI C k env (eval iter env) mi) (hb : DS C k env (execs body env) mb)
    (hE : ∀ σ g σ', mi σ = some (g, σ') → ∃ n i, g = .enum n i) (hfs : ∀ x, foldedSetIterable iter env x = pure x) : DS C k env (exec (.For (.Tuple elts x1 px) iter body [] pos) env) (do let g ← mi; forM' fuel g st mb) := by
  refine ds_for (P := fun g => ∃ n i, g = .enum n i) hi hst hb (fun g g' σ σ' a h hg => ?_) (fun A ρ s Q E it its v g hg ho hQ => ?_) hE hfs
  · obtain ⟨n, i, rfl⟩ := hg
    have h' : (match σ.hp[n]? with
      | some (.list l) => (match l[i]? with
        | some a => some (some (AV.tup [.int i, a], Src.enum n (i + 1)), σ)
        | none => some (none, σ))
      | _ => none) = some (some (a, g'), σ') := h
    split at h'
    · split at h' <;> cases h'
      exact ⟨_, _, rfl⟩
    · cases h'
  · obtain ⟨n, i, rfl⟩ := hg
    obtain ⟨it2, l, x, a, rfl, hne, hr, hit, hout, rfl⟩ := ho
    refine wpAny_letOwnedTupleGo_enum hout fun h' he hs => hQ h' (fun b o hb e => hs.extBut b o (fun q => hb (by simp [q])) e) ⟨it2, l, x, rfl, hne, hr, ?_, he⟩
    exact hit.extBut hs.extBut hne.symm
theorem enum_is {mi : M (List AV)} : ∀ (σ : St) (g : Src) (σ' : St), (do let l ← mi; enumM l : M Src) σ = some (g, σ') → ∃ n i, g = .enum n i := by
  intro σ g σ' h
  obtain ⟨l, σ₁, _, h⟩ := bind_some h
  unfold enumM at h
  split at h
  · rename_i n
    split at h
    · cases h; exact ⟨_, _, rfl⟩
    · cases h
  · cases h
theorem DC.mono {k' : Nat} {α β : Type} {Rv : Heap → Rho → α → β → Prop} {t : List Value → Sem β} {g : List AV → M α} (h : DC C k env Rv t g) (hk : k ≤ k') : DC C k' env Rv t g :=
  fun A σ l a σ' hA hm => h A σ l a σ' (hA.mono hk) hm
theorem VRels.split {mC : Addr} {h : Heap} {ρ : Rho} : ∀ {l : List AV} {vs : List Value}, VRels mC h ρ l vs → ∀ (i : Nat) (a : AV), l[i]? = some a → ∃ v, vs[i]? = some v ∧ VRel mC h ρ a v := fun V i a e => (V.get i).1 a e
theorem zip_fst_sub : ∀ (ns : List Str) (vs : List Value), ((ns.zip vs).map (·.1)).Sublist ns
  | [], _ => by simp
  | _ :: _, [] => by simp
  | n :: ns, v :: vs => by simpa using zip_fst_sub ns vs
theorem zip_lookup : ∀ {ns : List Str} {vs : List Value}, ns.Nodup → ∀ (i : Nat) (x : Str) (v : Value), ns[i]? = some x → vs[i]? = some v → (ns.zip vs).reverse.lookup x = some v := by
  intro ns vs hn i x v hx hv
  have hnd : ((ns.zip vs).reverse.map (·.1)).Nodup := by
    rw [List.map_reverse]
    refine (List.reverse_perm _).nodup_iff.mpr ?_
    exact hn.sublist (zip_fst_sub ns vs)
  have hz : (ns.zip vs)[i]? = some (x, v) := by rw [List.getElem?_zip_eq_some]; exact ⟨hx, hv⟩
  have hm : (x, v) ∈ (ns.zip vs).reverse := List.mem_reverse.mpr (List.mem_of_getElem? hz)
  obtain ⟨j, hj⟩ := List.getElem?_of_mem hm
  exact lookup_of_nth hnd hj
/-- plain parameters, all given -/
theorem binds_plain {fd : FuncData} {scope : Scope} (ns : List Str) (m : Nat) (hsc : ∀ (i : Nat) (x : Str), ns[i]? = some x → scope.names[i]? = some (x, .local)) (hlk : ∀ x ∈ ns, scope.names.lookup x = some .local) (hnd : ns.Nodup)
    (hb : ∀ vs : List Value, vs.length = ns.length → ∀ s : Shared, C.K.In s.heap → BindsTo s fd ⟨vs, []⟩ (ns.zip vs)) :
    Binds C fd scope (fun l => if l.length = ns.length then some (l.map some ++ List.replicate m none) else none) := by
  intro l lc vs s ρ hl V hK
  dsimp only at hl
  split at hl
  · rename_i hlen
    cases hl
    have hvl : vs.length = ns.length := V.length ▸ hlen
    refine ⟨ns.zip vs, hb vs hvl s hK, fun y hy => hlk _ (List.of_mem_zip hy).1, fun i av e => ?_⟩
    have hi : i < l.length := by
      by_cases hi : i < l.length
      · exact hi
      · rw [List.getElem?_append_right (by simpa using hi)] at e
        have := List.mem_of_getElem? e
        rw [List.mem_replicate] at this
        exact absurd this.2 (by simp)
    rw [List.getElem?_append_left (by simpa using hi), List.getElem?_map] at e
    obtain ⟨a, ha, e⟩ := Option.map_eq_some_iff.mp e
    cases e
    obtain ⟨v, hv, W⟩ := V.split i _ ha
    have hx : ns[i]? = some (ns[i]'(by omega)) := List.getElem?_eq_getElem (by omega)
    exact ⟨_, v, hsc i _ hx, zip_lookup hnd i _ v hx hv, W⟩
  · cases hl
theorem binds_dflt {fd : FuncData} {scope : Scope} (ns : List Str) (m n : Nat) (dv : List Value) (da : List AV) (hda : ∀ h ρ, VRels C.mC h ρ da dv) (hlen' : n + da.length = ns.length) (hsc : ∀ (i : Nat) (x : Str), ns[i]? = some x → scope.names[i]? = some (x, .local)) (hlk : ∀ x ∈ ns, scope.names.lookup x = some .local) (hnd : ns.Nodup)
    (hb : ∀ vs : List Value, vs.length = n → ∀ s : Shared, C.K.In s.heap → BindsTo s fd ⟨vs, []⟩ (ns.zip (vs ++ dv))) :
    Binds C fd scope (fun l => if l.length = n then some ((l ++ da).map some ++ List.replicate m none) else none) := by
  intro l lc vs s ρ hl V hK
  dsimp only at hl
  split at hl
  · rename_i hlen
    cases hl
    have hvl : vs.length = n := V.length ▸ hlen
    have W := V.append (hda s.heap ρ)
    refine ⟨ns.zip (vs ++ dv), hb vs hvl s hK, fun y hy => hlk _ (List.of_mem_zip hy).1, fun i av e => ?_⟩
    have hl2 : (l ++ da).length = ns.length := by rw [List.length_append, hlen]; exact hlen'
    have hi : i < (l ++ da).length := by
      by_cases hi : i < (l ++ da).length
      · exact hi
      · rw [List.getElem?_append_right (by rw [List.length_map]; omega)] at e
        have := List.mem_of_getElem? e
        rw [List.mem_replicate] at this
        exact absurd this.2 (by simp)
    rw [List.getElem?_append_left (by rw [List.length_map]; omega), List.getElem?_map] at e
    obtain ⟨a, ha, e⟩ := Option.map_eq_some_iff.mp e
    cases e
    obtain ⟨v, hv, W⟩ := W.split i _ ha
    have hx : ns[i]? = some (ns[i]'(by omega)) := List.getElem?_eq_getElem (by omega)
    exact ⟨_, v, hsc i _ hx, zip_lookup hnd i _ v hx hv, W⟩
  · cases hl
theorem binds_or {fd : FuncData} {scope : Scope} {b₁ b₂ : List AV → Option (List (Option AV))} (h₁ : Binds C fd scope b₁) (h₂ : Binds C fd scope b₂) : Binds C fd scope (fun l => match b₁ l with | some x => some x | none => b₂ l) := by
  intro l lc vs s ρ hl V hK
  dsimp only at hl
  split at hl
  · rename_i x e; cases hl; exact h₁ l lc vs s ρ e V hK
  · exact h₂ l lc vs s ρ hl V hK
abbrev mkListM (l : List AV) : M AV := fun σ => if l.length ≤ 64 then allocM (.list l) σ else none
theorem ds_doc {x : Str} {kk : Nat} {p pos : Pos} (hi : interactive env = false) (hs : swapsWith (.Constant (.str x) kk p) none pos.line env = pure false) : DS C k env (exec (.Expr (.Constant (.str x) kk p) pos) env) (pure .next) := by
  intro A σ a σ' hA hm ρ s Q E R h
  obtain ⟨rfl, rfl⟩ := pure_some hm
  exact wpAny_Expr_any (wpAny_Constant_str (h ρ _ _ R (Sp.toks _) .next)) hi hs
theorem nx_ne : ∀ g g' σ σ' a, nxtM g σ = some (some (a, g'), σ') → notEnum g = true → notEnum g' = true := fun g g' σ σ' a h hg => nxt_notEnum h hg
theorem lo_name {x : Str} {px : Pos} : ∀ (A : Around) (ρ : Rho) (s : Shared) (Q : Unit → Shared → Prop) (E : Value → Shared → Prop) (it : Nat) (its : List Nat) (v : Value) (g : Src), notEnum g = true → ItOut C s.heap ρ it its v g →
      (∀ h', (∀ b o, b ∉ its → s.heap.get? b = some o → h'.get? b = some o) → ItR C h' ρ it its g → Q () { s with heap := h' }) → wpAny (model C.prog C.w) A (letOwnedTupleGo (.Name x px) (.ref it) v) Q E s := by
  intro A ρ s Q E it its v g hg ho hQ
  show wpAny _ _ (pure () : Sem Unit) _ _ _
  exact wpAny_pure (hQ s.heap (fun _ _ _ e => e) (out_in hg ho))
theorem lo_tup {elts : List PySem.Expr} {x1 : Nat} {px : Pos} : ∀ (A : Around) (ρ : Rho) (s : Shared) (Q : Unit → Shared → Prop) (E : Value → Shared → Prop) (it : Nat) (its : List Nat) (v : Value) (g : Src), notEnum g = true → ItOut C s.heap ρ it its v g →
      (∀ h', (∀ b o, b ∉ its → s.heap.get? b = some o → h'.get? b = some o) → ItR C h' ρ it its g → Q () { s with heap := h' }) → wpAny (model C.prog C.w) A (letOwnedTupleGo (.Tuple elts x1 px) (.ref it) v) Q E s := by
  intro A ρ s Q E it its v g hg ho hQ
  obtain ⟨o, T, p, hc, hT⟩ := ItR.cls hg (out_in hg ho)
  exact letOwned_other p hc hT (hQ s.heap (fun _ _ _ e => e) (out_in hg ho))
theorem it_ne {m : M AV} : ∀ σ g σ', (do let a ← m; iterM a : M Src) σ = some (g, σ') → notEnum g = true := by
  intro σ g σ' h
  obtain ⟨a, σ₁, _, h⟩ := bind_some h
  exact iterM_notEnum h
theorem caps_none {scope : Scope} {cl : List (Str × Addr)} {caps : List (Option Nat)} (h : caps.all (·.isNone) = true) : Caps env scope cl caps := by
  intro i j e
  have := List.all_eq_true.mp h _ (List.mem_of_getElem? e)
  simp at this
abbrev neverM : M Fl := fun _ => none
theorem ds_never {t : Sem Flow} : DS C k env t neverM := fun A σ a σ' hA hm => by cases hm
end
end Mine

open PySem PySem.W PyProof.Rows
set_option Elab.async false
set_option maxRecDepth 100000
set_option maxHeartbeats 1000000
set_option linter.unusedVariables false
namespace Mine
/-! the script: a list of ints that lies there ahead of the call and stays as it is -/
def ScrAt (C : Cx) (sa : Nat) (ns : List Int) : Prop := ns.length ≤ 63 ∧ ∃ its : List Value, C.h₀.get? sa = some { cls := .type "list", data := .seq its.toArray } ∧ IntsAre its ns
open Classical in
noncomputable def scrL (sa : Nat) (ns : List Int) : AV → M (List AV)
  | .st v => fun σ => if v = .ref sa then some (ns.map .int, σ) else none
  | _ => fun _ => none
noncomputable def sumS (sa : Nat) (ns : List Int) : List AV → M AV
  | [a] => do let _ ← scrL sa ns a; pure (.int ns.sum)
  | _ => fun _ => none
noncomputable def lenS (sa : Nat) (ns : List Int) : List AV → M AV
  | [a] => do let _ ← scrL sa ns a; pure (.int ns.length)
  | _ => fun _ => none
noncomputable def sliceS (sa : Nat) (ns : List Int) (v lo hi : AV) : M AV := do
  let l ← scrL sa ns v
  match boundM 0 lo, boundM l.length hi with
  | some a, some b => allocM (.list ((l.drop a).take (b - a)))
  | _, _ => fun _ => none
section
variable {C : Cx} {k : Nat} {env : Env} {sa : Nat} {ns : List Int}
theorem ints_len : ∀ {its : List Value} {ns : List Int}, IntsAre its ns → its.length = ns.length
  | _, _, .nil => rfl
  | _, _, .cons _ _ r => by simp [ints_len r]
theorem intsOf_map : ∀ ns : List Int, intsOf (ns.map .int) = some ns
  | [] => rfl
  | n :: ns => by simp [intsOf, intsOf_map ns]
theorem scr_at (HS : ScrAt C sa ns) {ρ : Rho} {σ σ' : St} {h : Heap} {a : AV} {l : List AV} {v : Value} (R : Rep C env ρ σ h) (V : VRel C.mC h ρ a v) (hm : scrL sa ns a σ = some (l, σ')) :
    σ = σ' ∧ l = ns.map .int ∧ v = .ref sa ∧ ∃ its : List Value, h.get? sa = some { cls := .type "list", data := .seq its.toArray } ∧ IntsAre its ns ∧ VRels C.mC h ρ l its := by
  unfold scrL at hm
  split at hm
  · split at hm
    · rename_i e
      cases hm
      cases V
      obtain ⟨_, its, h1, h2⟩ := HS
      exact ⟨rfl, rfl, e, its, R.base _ _ h1, h2, intsAre_rel h2⟩
    · cases hm
  · cases hm
theorem dc_sumS (HS : ScrAt C sa ns) : DC C k env (RV C) (fun vs => call (.builtin "sum") vs) (sumS sa ns) := by
  intro A σ l a σ' hA hm ρ s Q E vs R V h
  unfold sumS at hm
  split at hm
  · obtain ⟨l', σ₁, h₁, hm⟩ := bind_some hm
    obtain ⟨rfl, rfl⟩ := pure_some hm
    cases V with
    | cons x V => cases V with
      | nil =>
        obtain ⟨rfl, rfl, rfl, its, hg, hi, W⟩ := scr_at HS R x h₁
        have hns := intsOf_map ns
        have hall : AllInts its.toArray := fun v hv => (ints_rel hns W).1 v (by simpa using hv)
        obtain ⟨xs, hxs⟩ := hall.items
        refine sum_intListG (xs := xs) hA.1 ⟨_, hg, rfl, _, by rw [hxs]⟩ fun h' tk t' hk => ?_
        have hn : preSum (numAt xs) xs.size = ns.sum := by
          rw [preSum_eq, List.take_of_length_le (by simp), ← nums_intItems, ← hxs]
          rw [show its.toArray.toList = its from rfl, numsOf_rel hns W]
        rw [hn]
        exact h ρ _ _ (R.pushes hk) (Sp.pushes hk _) (.int _ _)
  · cases hm
theorem dc_lenS (HS : ScrAt C sa ns) : DC C k env (RV C) (fun vs => call (.builtin "len") vs) (lenS sa ns) := by
  intro A σ l a σ' hA hm ρ s Q E vs R V h
  unfold lenS at hm
  split at hm
  · obtain ⟨l', σ₁, h₁, hm⟩ := bind_some hm
    obtain ⟨rfl, rfl⟩ := pure_some hm
    cases V with
    | cons x V => cases V with
      | nil =>
        obtain ⟨rfl, rfl, rfl, its, hg, hi, W⟩ := scr_at HS R x h₁
        have hlen := ints_len hi
        have h63 := HS.1
        refine Calls.call_len_list (items := its.toArray) ⟨_, hg, rfl, _, rfl⟩ ?_ ?_
        · rw [List.size_toArray]; omega
        · rw [List.size_toArray, hlen]
          exact h ρ _ _ R (Sp.toks _) (.int _ _)
  · cases hm
theorem den_sliceS (HS : ScrAt C sa ns) {value : PySem.Expr} {lower upper : Option PySem.Expr} {p pos : Pos} {mv mlo mhi : M AV} (hv : DV C k env (eval value env) mv) (hlo : DV C k env (evalPart lower env) mlo) (hhi : DV C k env (evalPart upper env) mhi) :
    DV C k env (eval (.Subscript value (.Slice lower upper none p) pos) env) (do let v ← mv; let a ← mlo; let b ← mhi; sliceS sa ns v a b) := by
  intro A σ a σ' hA hm ρ s Q E R h
  obtain ⟨v, σ₁, h₁, hm⟩ := bind_some hm
  obtain ⟨x, σ₂, h₂, hm⟩ := bind_some hm
  obtain ⟨y, σ₃, h₃, hm⟩ := bind_some hm
  refine slice_tmp (hv A σ v σ₁ hA h₁ ρ s _ E R fun ρ₁ s₁ vv R₁ S₁ V₁ => ?_)
  refine hlo A σ₁ x σ₂ hA h₂ ρ₁ s₁ _ E R₁ fun ρ₂ s₂ vx R₂ S₂ V₂ => ?_
  refine hhi A σ₂ y σ₃ hA h₃ ρ₂ s₂ _ E R₂ fun ρ₃ s₃ vy R₃ S₃ V₃ => ?_
  have V₁' := (V₁.step S₂).step S₃
  have V₂' := V₂.step S₃
  unfold sliceS at hm
  obtain ⟨l, σ₄, h₄, hm⟩ := bind_some hm
  obtain ⟨rfl, hlv, rfl, its, hp, hI, W⟩ := scr_at HS R₃ V₁' h₄
  have hlen63 : l.length ≤ 63 := by rw [hlv, List.length_map]; exact HS.1
  have hwl := W.length
  cases hi : boundM 0 x with
  | none => simp only [hi] at hm; cases hm
  | some i =>
  cases hj : boundM l.length y with
  | none => simp only [hi, hj] at hm; cases hm
  | some j =>
    simp only [hi, hj] at hm
    cases hm
    have Ex : ∃ lo : Option Int, IsPart vx lo ∧ lo.elim 0 (clipAt its.length) = min i its.length := by
      cases x with
      | none => simp only [boundM] at hi; cases V₂'; cases hi; exact ⟨none, .none, by simp⟩
      | int z =>
        simp only [boundM] at hi
        split at hi
        · rename_i hz
          cases hi
          cases V₂' with
          | int _ t =>
            refine ⟨some z, .int z t, ?_⟩
            have := clipAt_nat its.length z.toNat
            rw [Int.toNat_of_nonneg hz] at this
            exact this
        · cases hi
      | _ => simp only [boundM, reduceCtorEq] at hi
    have Ey : ∃ hi : Option Int, IsPart vy hi ∧ hi.elim its.length (clipAt its.length) = min j its.length := by
      cases y with
      | none => simp only [boundM] at hj; cases V₃; cases hj; exact ⟨none, .none, by simp [hwl]⟩
      | int z =>
        simp only [boundM] at hj
        split at hj
        · rename_i hz
          cases hj
          cases V₃ with
          | int _ t =>
            refine ⟨some z, .int z t, ?_⟩
            have := clipAt_nat its.length z.toNat
            rw [Int.toNat_of_nonneg hz] at this
            exact this
        · cases hj
      | _ => simp only [boundM, reduceCtorEq] at hj
    obtain ⟨lo, plo, elo⟩ := Ex
    obtain ⟨hi', phi, ehi⟩ := Ey
    refine ⟨sa, its.toArray, lo, hi', rfl, ⟨_, hp, rfl, _, rfl⟩, by rw [List.size_toArray, ← hwl, sizeLine_eq]; omega, plo, phi, ?_⟩
    have hpk : slicePick its.toArray lo hi' none = ((its.drop i).take (j - i)).toArray := by
      rw [slicePick_plain]
      simp only [List.size_toArray, elo, ehi]
      rw [pick_bounds]
    rw [hpk]
    have hk : ∀ b o, s₃.heap.get? b = some o → ((s₃.heap.push { cls := .type "slice", data := .fields #[vx, vy, .none] }).push { cls := .type "list", data := .seq ((its.drop i).take (j - i)).toArray }).get? b = some o := fun b o e => Heap.get?_push_of_some _ (Heap.get?_push_of_some _ e)
    have hsz : (s₃.heap.push { cls := .type "slice", data := .fields #[vx, vy, .none] }).objs.size = s₃.heap.objs.size + 1 := Heap.size_push ..
    refine h _ _ _ (R₃.allocG (a₀ := s₃.heap.objs.size + 1) (d₀ := s₃.heap.objs.size + 1) (.list ((l.drop i).take (j - i))) hk (Nat.le_succ _) (Nat.le_succ _) R₃.lsize ⟨rfl, _, ⟨0, by rw [← hsz]; exact Heap.get?_push_size _ rfl⟩, ((W.drop i).take (j - i)).mono (fun b o e _ => hk b o e) fun n q e => by rw [List.getElem?_append_left (List.getElem?_eq_some_iff.mp e).1]; exact e⟩) ((S₁.trans (S₂.trans S₃)).trans (Sp.allocG (s := s₃) _ _ hk (Nat.le_succ _) (Nat.le_succ _))) (.ref (new_ref R₃))
end
end Mine

open PySem PySem.W PyProof.Rows
set_option Elab.async false
set_option linter.unusedVariables false
set_option maxRecDepth 100000
set_option maxHeartbeats 0
namespace Mine
open_shared hd for PySem.Challenge.pw_fd5001_01 leaving 9
/-! the head: the class statement's docstring is too long for the kernel's Array.any, so its run is shown under a twin of type.__new__ -/
def putDoc (d : Str) : List Stmt → List Stmt
  | .Expr (.Constant (.str _) k p) q :: r => .Expr (.Constant (.str d) k p) q :: r
  | l => l
def putDocF (d : Str) : Stmt → Stmt
  | .FunctionDef n a b ds r t s ts bd p => .FunctionDef n a (putDoc d b) ds r t s ts bd p
  | s => s
def putDocs : List (Option Str) → List Stmt → List Stmt
  | some d :: ds, s :: r => putDocF d s :: putDocs ds r
  | none :: ds, s :: r => s :: putDocs ds r
  | _, l => l
def putDocC (d : Str) (ds : List (Option Str)) : Stmt → Stmt
  | .ClassDef n bs ks b dl t s ts bd sa p => .ClassDef n bs ks (putDocs (none :: ds) (putDoc d b)) dl t s ts bd sa p
  | s => s
def stAt (l : List Stmt) (i : Nat) : Stmt := (l.drop i).headD (.Pass ⟨0, 0, 0, 0⟩)
def cBody : Stmt → List Stmt
  | .ClassDef _ _ _ b _ _ _ _ _ _ _ => b
  | _ => []
def fBody : Stmt → List Stmt
  | .FunctionDef _ _ b _ _ _ _ _ _ _ => b
  | _ => []
def fParams : Stmt → Arguments
  | .FunctionDef _ a _ _ _ _ _ _ _ _ => a
  | _ => default
def theDoc (l : List Stmt) : Str := match l with
  | .Expr (.Constant (.str d) _ _) _ :: _ => d
  | _ => Str.empty
def fScope : Stmt → Scope
  | .FunctionDef _ _ _ _ _ _ s _ _ _ => s
  | _ => default
noncomputable def anyR {α : Type} (p : α → Bool) (l : List α) : Bool := @List.rec α (fun _ => Bool) false (fun a _ ih => @Bool.rec (fun _ => Bool) ih true (p a)) l
theorem anyR_eq {α : Type} (p : α → Bool) : ∀ l : List α, anyR p l = l.any p
  | [] => rfl
  | a :: l => by
    rw [List.any_cons, ← anyR_eq p l]
    show @Bool.rec (fun _ => Bool) (anyR p l) true (p a) = _
    cases p a <;> rfl
noncomputable def anyFast {α : Type} (as : Array α) (p : α → Bool) (start : Nat := 0) (stop : Nat := as.size) : Bool :=
  match Nat.beq start 0, Nat.ble as.size stop with
  | true, true => anyR p as.toList
  | _, _ => as.any p start stop
theorem any_eq : @Array.any.{0} = @anyFast := by
  funext α as p start stop
  unfold anyFast
  split
  · rename_i h1 h2
    have e1 : start = 0 := Nat.eq_of_beq_eq_true h1
    have e2 : as.size ≤ stop := Nat.le_of_ble_eq_true h2
    subst e1
    rw [anyR_eq, Array.any_toList]
    by_cases h : as.size = stop
    · subst h; rfl
    · rw [Bool.eq_iff_iff, Array.any_iff_exists, Array.any_iff_exists]
      constructor
      · rintro ⟨i, hi, a, b, c⟩; exact ⟨i, hi, a, by omega, c⟩
      · rintro ⟨i, hi, a, b, c⟩; exact ⟨i, hi, a, by omega, c⟩
  · rfl
noncomputable def newTP : {f : Builtin // PySem.W.Fast.tw4202317264376624991 = f} := ⟨_, by
  delta PySem.W.Fast.tw4202317264376624991
  rw [any_eq]⟩
noncomputable def tb (id : String) : Option Builtin := @ite _ (id = "type.__new__") (PySem.W.S.strDecS id "type.__new__") (some newTP.1) (PySem.W.Fast.tw14364793385576792824 id)
theorem tree_type_new : treeTable "type.__new__" = some Builtin.«type.__new__» := by kernel_rfl
theorem tb_eq : treeTable = tb := by
  funext id
  unfold tb
  split
  · rename_i h
    subst h
    rw [← newTP.2, tree_type_new]
    exact congrArg some PySem.W.Fast.te4202317264376624991
  · exact congrFun PySem.W.Fast.te14364793385576792824 id
def pw : Program := PySem.Challenge.pw_fd5001_01
def body0 : List Stmt := PySem.Challenge.pw_fd5001_01.main.body

def docSrc0 : Str := theDoc (cBody (stAt body0 5))
noncomputable def docP0 : {d : Str // docSrc0 = d} := ⟨_, (show docSrc0 = Str.ofString _ from rfl).trans (PySem.W.Fast.ofString_ofList _)⟩
noncomputable def doc0 : Str := docP0.1
theorem doc0_eq : docSrc0 = doc0 := docP0.2
def docSrc1 : Str := theDoc (fBody (stAt (cBody (stAt body0 5)) 1))
noncomputable def docP1 : {d : Str // docSrc1 = d} := ⟨_, (show docSrc1 = Str.ofString _ from rfl).trans (PySem.W.Fast.ofString_ofList _)⟩
noncomputable def doc1 : Str := docP1.1
theorem doc1_eq : docSrc1 = doc1 := docP1.2
def docSrc2 : Str := theDoc (fBody (stAt (cBody (stAt body0 5)) 2))
noncomputable def docP2 : {d : Str // docSrc2 = d} := ⟨_, (show docSrc2 = Str.ofString _ from rfl).trans (PySem.W.Fast.ofString_ofList _)⟩
noncomputable def doc2 : Str := docP2.1
theorem doc2_eq : docSrc2 = doc2 := docP2.2
def docSrc3 : Str := theDoc (fBody (stAt (cBody (stAt body0 5)) 3))
noncomputable def docP3 : {d : Str // docSrc3 = d} := ⟨_, (show docSrc3 = Str.ofString _ from rfl).trans (PySem.W.Fast.ofString_ofList _)⟩
noncomputable def doc3 : Str := docP3.1
theorem doc3_eq : docSrc3 = doc3 := docP3.2
def docSrc4 : Str := theDoc (fBody (stAt (cBody (stAt body0 5)) 4))
noncomputable def docP4 : {d : Str // docSrc4 = d} := ⟨_, (show docSrc4 = Str.ofString _ from rfl).trans (PySem.W.Fast.ofString_ofList _)⟩
noncomputable def doc4 : Str := docP4.1
theorem doc4_eq : docSrc4 = doc4 := docP4.2
def docSrc5 : Str := theDoc (fBody (stAt (cBody (stAt body0 5)) 6))
noncomputable def docP5 : {d : Str // docSrc5 = d} := ⟨_, (show docSrc5 = Str.ofString _ from rfl).trans (PySem.W.Fast.ofString_ofList _)⟩
noncomputable def doc5 : Str := docP5.1
theorem doc5_eq : docSrc5 = doc5 := docP5.2
def docSrc6 : Str := theDoc (fBody (stAt (cBody (stAt body0 5)) 7))
noncomputable def docP6 : {d : Str // docSrc6 = d} := ⟨_, (show docSrc6 = Str.ofString _ from rfl).trans (PySem.W.Fast.ofString_ofList _)⟩
noncomputable def doc6 : Str := docP6.1
theorem doc6_eq : docSrc6 = doc6 := docP6.2
def docSrc7 : Str := theDoc (fBody (stAt (cBody (stAt body0 5)) 10))
noncomputable def docP7 : {d : Str // docSrc7 = d} := ⟨_, (show docSrc7 = Str.ofString _ from rfl).trans (PySem.W.Fast.ofString_ofList _)⟩
noncomputable def doc7 : Str := docP7.1
theorem doc7_eq : docSrc7 = doc7 := docP7.2
def clsOf (d0 d1 d2 d3 d4 d5 d6 d7 : Str) : Stmt := putDocC d0 [some d1, some d2, some d3, some d4, none, some d5, some d6, none, none, some d7, none, none] (stAt body0 5)
noncomputable def clsF : Stmt := clsOf doc0 doc1 doc2 doc3 doc4 doc5 doc6 doc7
theorem cls_eq : stAt body0 5 = clsF := by
  unfold clsF
  rw [← doc0_eq, ← doc1_eq, ← doc2_eq, ← doc3_eq, ← doc4_eq, ← doc5_eq, ← doc6_eq, ← doc7_eq]
  kernel_rfl
noncomputable def ob3 : Params → Obj := fun P => { cls := (Value.type "dict"), dict := none, data := (Data.dict ⟨[⟨(PyData.keyHash P (Str.ofString "__name__")), (Value.str (Str.ofString "__name__") 165), (Value.str (Str.ofString "law_fd5001_01") 575)⟩, ⟨(PyData.keyHash P (Str.ofString "__doc__")), (Value.str (Str.ofString "__doc__") 166), Value.none⟩, ⟨(PyData.keyHash P (Str.ofString "__package__")), (Value.str (Str.ofString "__package__") 167), Value.none⟩, ⟨(PyData.keyHash P (Str.ofString "__loader__")), (Value.str (Str.ofString "__loader__") 168), (Value.builtin "__main__.__loader__#opaque")⟩, ⟨(PyData.keyHash P (Str.ofString "__spec__")), (Value.str (Str.ofString "__spec__") 169), Value.none⟩, ⟨(PyData.keyHash P (Str.ofString "__annotations__")), (Value.str (Str.ofString "__annotations__") 170), (Value.ref 6)⟩, ⟨(PyData.keyHash P (Str.ofString "__builtins__")), (Value.str (Str.ofString "__builtins__") 171), (Value.ref 4)⟩, ⟨(PyData.keyHash P (Str.ofString "__file__")), (Value.str (Str.ofString "__file__") 173), (Value.str (Str.ofString "/claim/cut.py") 172)⟩, ⟨(PyData.keyHash P (Str.ofString "__cached__")), (Value.str (Str.ofString "__cached__") 174), Value.none⟩, ⟨(PyData.keyHash P (Str.ofString "_wall")), (Value.str (Str.ofString "_wall") 193), (Value.ref 21)⟩, ⟨(PyData.keyHash P (Str.ofString "_tuplegetter")), (Value.str (Str.ofString "_tuplegetter") 252), (Value.ref 60)⟩, ⟨(PyData.keyHash P (Str.ofString "Match")), (Value.str (Str.ofString "Match") 380), (Value.ref 135)⟩, ⟨(PyData.keyHash P (Str.ofString "_calculate_ratio")), (Value.str (Str.ofString "_calculate_ratio") 388), (Value.ref 145)⟩, ⟨(PyData.keyHash P (Str.ofString "SequenceMatcher")), (Value.str (Str.ofString "SequenceMatcher") 574), (Value.ref 242)⟩, ⟨(PyData.keyHash P (Str.ofString "_law_NOISE")), (Value.str (Str.ofString "_law_NOISE") 580), (Value.ref 247)⟩, ⟨(PyData.keyHash P (Str.ofString "_law_named")), (Value.str (Str.ofString "_law_named") 587), (Value.ref 254)⟩, ⟨(PyData.keyHash P (Str.ofString "_law_second")), (Value.str (Str.ofString "_law_second") 593), (Value.ref 259)⟩, ⟨(PyData.keyHash P (Str.ofString "_law_heart")), (Value.str (Str.ofString "_law_heart") 613), (Value.ref 266)⟩, ⟨(PyData.keyHash P (Str.ofString "_law_grown")), (Value.str (Str.ofString "_law_grown") 631), (Value.ref 273)⟩, ⟨(PyData.keyHash P (Str.ofString "_law_plain")), (Value.str (Str.ofString "_law_plain") 638), (Value.ref 280)⟩, ⟨(PyData.keyHash P (Str.ofString "law")), (Value.str (Str.ofString "law") 665), (Value.ref 287)⟩]⟩ 21), slots := ⟨[]⟩ }
noncomputable def ob12 : Params → Obj := fun P => { cls := Value.none, dict := none, data := (Data.fields ⟨[(Value.int 1 0), (Value.int 0 0), (Value.ref 20), (Value.int 5 0), (Value.int 0 0), (Value.ref 27), (Value.int 23 0), (Value.int 0 0), (Value.ref 71), (Value.int 66 0), (Value.int 0 0), (Value.ref 144), (Value.int 70 0), (Value.int 0 0), (Value.ref 151), (Value.int 420 0), (Value.int 0 0), (Value.ref 253), (Value.int 422 0), (Value.int 0 0), (Value.ref 258), (Value.int 429 0), (Value.int 0 0), (Value.ref 265), (Value.int 441 0), (Value.int 0 0), (Value.ref 272), (Value.int 449 0), (Value.int 0 0), (Value.ref 279), (Value.int 451 0), (Value.int 0 0), (Value.ref 286)]⟩), slots := ⟨[]⟩ }
noncomputable def ob146 : Params → Obj := fun P => { cls := (Value.type "tuple"), dict := none, data := (Data.seq ⟨[]⟩ 0), slots := ⟨[]⟩ }
noncomputable def ob147 : Params → Obj := fun P => { cls := (Value.type "builtin_function_or_method"), dict := none, data := (Data.fields ⟨[(Value.builtin "type.__prepare__"), (Value.type "type")]⟩), slots := ⟨[]⟩ }
noncomputable def ob148 : Params → Obj := fun P => { cls := (Value.type "dict"), dict := none, data := (Data.dict ⟨[⟨(PyData.keyHash P (Str.ofString "__module__")), (Value.str (Str.ofString "__module__") 396), (Value.str (Str.ofString "cpy313.difflib") 194)⟩, ⟨(PyData.keyHash P (Str.ofString "__qualname__")), (Value.str (Str.ofString "__qualname__") 398), (Value.str (Str.ofString "SequenceMatcher") 397)⟩, ⟨(PyData.keyHash P (Str.ofString "__firstlineno__")), (Value.str (Str.ofString "__firstlineno__") 400), (Value.int 70 399)⟩, ⟨(PyData.keyHash P (Str.ofString "__doc__")), (Value.str (Str.ofString "__doc__") 402), (Value.str doc0 401)⟩, ⟨(PyData.keyHash P (Str.ofString "__init__")), (Value.str (Str.ofString "__init__") 417), (Value.ref 160)⟩, ⟨(PyData.keyHash P (Str.ofString "set_seqs")), (Value.str (Str.ofString "set_seqs") 427), (Value.ref 167)⟩, ⟨(PyData.keyHash P (Str.ofString "set_seq1")), (Value.str (Str.ofString "set_seq1") 436), (Value.ref 174)⟩, ⟨(PyData.keyHash P (Str.ofString "set_seq2")), (Value.str (Str.ofString "set_seq2") 445), (Value.ref 181)⟩, ⟨(PyData.keyHash P (Str.ofString "_SequenceMatcher__chain_b")), (Value.str (Str.ofString "_SequenceMatcher__chain_b") 463), (Value.ref 188)⟩, ⟨(PyData.keyHash P (Str.ofString "find_longest_match")), (Value.str (Str.ofString "find_longest_match") 491), (Value.ref 196)⟩, ⟨(PyData.keyHash P (Str.ofString "get_matching_blocks")), (Value.str (Str.ofString "get_matching_blocks") 518), (Value.ref 203)⟩, ⟨(PyData.keyHash P (Str.ofString "get_opcodes")), (Value.str (Str.ofString "get_opcodes") 525), (Value.ref 210)⟩, ⟨(PyData.keyHash P (Str.ofString "get_grouped_opcodes")), (Value.str (Str.ofString "get_grouped_opcodes") 534), (Value.ref 218)⟩, ⟨(PyData.keyHash P (Str.ofString "ratio")), (Value.str (Str.ofString "ratio") 543), (Value.ref 225)⟩, ⟨(PyData.keyHash P (Str.ofString "quick_ratio")), (Value.str (Str.ofString "quick_ratio") 550), (Value.ref 232)⟩, ⟨(PyData.keyHash P (Str.ofString "real_quick_ratio")), (Value.str (Str.ofString "real_quick_ratio") 557), (Value.ref 239)⟩, ⟨(PyData.keyHash P (Str.ofString "__static_attributes__")), (Value.str (Str.ofString "__static_attributes__") 568), (Value.ref 240)⟩]⟩ 17), slots := ⟨[]⟩ }
noncomputable def ob149 : Params → Obj := fun P => { cls := (Value.type "tuple"), dict := none, data := (Data.seq ⟨[]⟩ 0), slots := ⟨[]⟩ }
noncomputable def ob150 : Params → Obj := fun P => { cls := Value.none, dict := none, data := (Data.fields ⟨[(Value.int 145 0), (Value.int 4 0), (Value.ref 159), (Value.int 173 0), (Value.int 4 0), (Value.ref 166), (Value.int 184 0), (Value.int 4 0), (Value.ref 173), (Value.int 209 0), (Value.int 4 0), (Value.ref 180), (Value.int 236 0), (Value.int 4 0), (Value.ref 187), (Value.int 260 0), (Value.int 4 0), (Value.ref 195), (Value.int 335 0), (Value.int 4 0), (Value.ref 202), (Value.int 383 0), (Value.int 4 0), (Value.ref 209), (Value.int 386 0), (Value.int 4 0), (Value.ref 217), (Value.int 389 0), (Value.int 4 0), (Value.ref 224), (Value.int 413 0), (Value.int 4 0), (Value.ref 231), (Value.int 416 0), (Value.int 4 0), (Value.ref 238)]⟩), slots := ⟨[]⟩ }
noncomputable def ob151 : Params → Obj := fun P => { cls := (Value.type "code"), dict := none, data := (Data.fields ⟨[(Value.str (Str.ofString "SequenceMatcher") 391), (Value.str (Str.ofString "SequenceMatcher") 392), (Value.str (Str.ofString "/claim/cut.py") 393), (Value.int 70 0), (Value.int 0 0), (Value.int 0 0), (Value.int 0 0), (Value.int 0 0), (Value.ref 149), (Value.bool false), (Value.int 181 0), (Value.ref 150), Value.none, Value.none, Value.none, Value.none, (Value.int 394 0), (Value.int 70 0), (Value.str (Str.ofString "/claim/cut.py") 395)]⟩), slots := ⟨[]⟩ }
noncomputable def ob152 : Params → Obj := fun P => { cls := (Value.type "frame"), dict := none, data := Data.plain, slots := ⟨[(some (Value.ref 151)), (some (Value.ref 3)), (some (Value.ref 148)), none, (some (Value.str (Str.ofString "cpy313.difflib") 194)), none, (some (Value.ref 0))]⟩ }
noncomputable def ob153 : Params → Obj := fun P => { cls := (Value.type "tuple"), dict := none, data := (Data.seq ⟨[Value.none, (Value.str (Str.ofString "") 404), (Value.str (Str.ofString "") 405), (Value.bool true)]⟩ 0), slots := ⟨[]⟩ }
noncomputable def ob154 : Params → Obj := fun P => { cls := (Value.type "tuple"), dict := none, data := (Data.seq ⟨[]⟩ 0), slots := ⟨[]⟩ }
noncomputable def ob155 : Params → Obj := fun P => { cls := Value.none, dict := none, data := (Data.fields ⟨[]⟩), slots := ⟨[]⟩ }
noncomputable def ob156 : Params → Obj := fun P => { cls := (Value.type "tuple"), dict := none, data := (Data.seq ⟨[(Value.str (Str.ofString "self") 409), (Value.str (Str.ofString "isjunk") 410), (Value.str (Str.ofString "a") 411), (Value.str (Str.ofString "b") 412), (Value.str (Str.ofString "autojunk") 413)]⟩ 0), slots := ⟨[]⟩ }
noncomputable def ob157 : Params → Obj := fun P => { cls := (Value.type "tuple"), dict := none, data := (Data.seq ⟨[]⟩ 0), slots := ⟨[]⟩ }
noncomputable def ob158 : Params → Obj := fun P => { cls := Value.none, dict := none, data := (Data.func { name := (Str.ofString "__init__"), qualname := (Str.ofString "SequenceMatcher.__init__"), params := fParams (stAt (cBody clsF) 1), body := .stmts (fBody (stAt (cBody clsF) 1)), scope := fScope (stAt (cBody clsF) 1), globals := 0, closure := [], defaults := Value.none, kwdefaults := Value.none, doc := Value.none, pyModule := Value.none, annotations := none, code := Value.none, closureTuple := Value.none, builtins := 0 }), slots := ⟨[]⟩ }
noncomputable def ob159 : Params → Obj := fun P => { cls := (Value.type "code"), dict := none, data := (Data.fields ⟨[(Value.str (Str.ofString "__init__") 406), (Value.str (Str.ofString "SequenceMatcher.__init__") 407), (Value.str (Str.ofString "/claim/cut.py") 408), (Value.int 145 0), (Value.int 5 0), (Value.int 0 0), (Value.int 0 0), (Value.int 3 0), (Value.ref 154), (Value.bool true), (Value.int 181 0), (Value.ref 155), Value.none, (Value.ref 156), (Value.ref 157), (Value.ref 158), (Value.int 414 0), (Value.int 145 0), (Value.str (Str.ofString "/claim/cut.py") 415)]⟩), slots := ⟨[]⟩ }
noncomputable def ob160 : Params → Obj := fun P => { cls := (Value.type "function"), dict := none, data := (Data.func { name := (Str.ofString "__init__"), qualname := (Str.ofString "SequenceMatcher.__init__"), params := fParams (stAt (cBody clsF) 1), body := .stmts (fBody (stAt (cBody clsF) 1)), scope := fScope (stAt (cBody clsF) 1), globals := 3, closure := [], defaults := (Value.ref 153), kwdefaults := Value.none, doc := (Value.str doc1 416), pyModule := (Value.str (Str.ofString "cpy313.difflib") 194), annotations := none, code := (Value.ref 159), closureTuple := Value.none, builtins := 0 }), slots := ⟨[]⟩ }
noncomputable def ob161 : Params → Obj := fun P => { cls := (Value.type "tuple"), dict := none, data := (Data.seq ⟨[]⟩ 0), slots := ⟨[]⟩ }
noncomputable def ob162 : Params → Obj := fun P => { cls := Value.none, dict := none, data := (Data.fields ⟨[]⟩), slots := ⟨[]⟩ }
noncomputable def ob163 : Params → Obj := fun P => { cls := (Value.type "tuple"), dict := none, data := (Data.seq ⟨[(Value.str (Str.ofString "self") 421), (Value.str (Str.ofString "a") 422), (Value.str (Str.ofString "b") 423)]⟩ 0), slots := ⟨[]⟩ }
noncomputable def ob164 : Params → Obj := fun P => { cls := (Value.type "tuple"), dict := none, data := (Data.seq ⟨[]⟩ 0), slots := ⟨[]⟩ }
noncomputable def ob165 : Params → Obj := fun P => { cls := Value.none, dict := none, data := (Data.func { name := (Str.ofString "set_seqs"), qualname := (Str.ofString "SequenceMatcher.set_seqs"), params := fParams (stAt (cBody clsF) 2), body := .stmts (fBody (stAt (cBody clsF) 2)), scope := fScope (stAt (cBody clsF) 2), globals := 0, closure := [], defaults := Value.none, kwdefaults := Value.none, doc := Value.none, pyModule := Value.none, annotations := none, code := Value.none, closureTuple := Value.none, builtins := 0 }), slots := ⟨[]⟩ }
noncomputable def ob166 : Params → Obj := fun P => { cls := (Value.type "code"), dict := none, data := (Data.fields ⟨[(Value.str (Str.ofString "set_seqs") 418), (Value.str (Str.ofString "SequenceMatcher.set_seqs") 419), (Value.str (Str.ofString "/claim/cut.py") 420), (Value.int 173 0), (Value.int 3 0), (Value.int 0 0), (Value.int 0 0), (Value.int 3 0), (Value.ref 161), (Value.bool true), (Value.int 181 0), (Value.ref 162), Value.none, (Value.ref 163), (Value.ref 164), (Value.ref 165), (Value.int 424 0), (Value.int 173 0), (Value.str (Str.ofString "/claim/cut.py") 425)]⟩), slots := ⟨[]⟩ }
noncomputable def ob167 : Params → Obj := fun P => { cls := (Value.type "function"), dict := none, data := (Data.func { name := (Str.ofString "set_seqs"), qualname := (Str.ofString "SequenceMatcher.set_seqs"), params := fParams (stAt (cBody clsF) 2), body := .stmts (fBody (stAt (cBody clsF) 2)), scope := fScope (stAt (cBody clsF) 2), globals := 3, closure := [], defaults := Value.none, kwdefaults := Value.none, doc := (Value.str doc2 426), pyModule := (Value.str (Str.ofString "cpy313.difflib") 194), annotations := none, code := (Value.ref 166), closureTuple := Value.none, builtins := 0 }), slots := ⟨[]⟩ }
noncomputable def ob168 : Params → Obj := fun P => { cls := (Value.type "tuple"), dict := none, data := (Data.seq ⟨[]⟩ 0), slots := ⟨[]⟩ }
noncomputable def ob169 : Params → Obj := fun P => { cls := Value.none, dict := none, data := (Data.fields ⟨[]⟩), slots := ⟨[]⟩ }
noncomputable def ob170 : Params → Obj := fun P => { cls := (Value.type "tuple"), dict := none, data := (Data.seq ⟨[(Value.str (Str.ofString "self") 431), (Value.str (Str.ofString "a") 432)]⟩ 0), slots := ⟨[]⟩ }
noncomputable def ob171 : Params → Obj := fun P => { cls := (Value.type "tuple"), dict := none, data := (Data.seq ⟨[]⟩ 0), slots := ⟨[]⟩ }
noncomputable def ob172 : Params → Obj := fun P => { cls := Value.none, dict := none, data := (Data.func { name := (Str.ofString "set_seq1"), qualname := (Str.ofString "SequenceMatcher.set_seq1"), params := fParams (stAt (cBody clsF) 3), body := .stmts (fBody (stAt (cBody clsF) 3)), scope := fScope (stAt (cBody clsF) 3), globals := 0, closure := [], defaults := Value.none, kwdefaults := Value.none, doc := Value.none, pyModule := Value.none, annotations := none, code := Value.none, closureTuple := Value.none, builtins := 0 }), slots := ⟨[]⟩ }
noncomputable def ob173 : Params → Obj := fun P => { cls := (Value.type "code"), dict := none, data := (Data.fields ⟨[(Value.str (Str.ofString "set_seq1") 428), (Value.str (Str.ofString "SequenceMatcher.set_seq1") 429), (Value.str (Str.ofString "/claim/cut.py") 430), (Value.int 184 0), (Value.int 2 0), (Value.int 0 0), (Value.int 0 0), (Value.int 3 0), (Value.ref 168), (Value.bool true), (Value.int 181 0), (Value.ref 169), Value.none, (Value.ref 170), (Value.ref 171), (Value.ref 172), (Value.int 433 0), (Value.int 184 0), (Value.str (Str.ofString "/claim/cut.py") 434)]⟩), slots := ⟨[]⟩ }
noncomputable def ob174 : Params → Obj := fun P => { cls := (Value.type "function"), dict := none, data := (Data.func { name := (Str.ofString "set_seq1"), qualname := (Str.ofString "SequenceMatcher.set_seq1"), params := fParams (stAt (cBody clsF) 3), body := .stmts (fBody (stAt (cBody clsF) 3)), scope := fScope (stAt (cBody clsF) 3), globals := 3, closure := [], defaults := Value.none, kwdefaults := Value.none, doc := (Value.str doc3 435), pyModule := (Value.str (Str.ofString "cpy313.difflib") 194), annotations := none, code := (Value.ref 173), closureTuple := Value.none, builtins := 0 }), slots := ⟨[]⟩ }
noncomputable def ob175 : Params → Obj := fun P => { cls := (Value.type "tuple"), dict := none, data := (Data.seq ⟨[]⟩ 0), slots := ⟨[]⟩ }
noncomputable def ob176 : Params → Obj := fun P => { cls := Value.none, dict := none, data := (Data.fields ⟨[]⟩), slots := ⟨[]⟩ }
noncomputable def ob177 : Params → Obj := fun P => { cls := (Value.type "tuple"), dict := none, data := (Data.seq ⟨[(Value.str (Str.ofString "self") 440), (Value.str (Str.ofString "b") 441)]⟩ 0), slots := ⟨[]⟩ }
noncomputable def ob178 : Params → Obj := fun P => { cls := (Value.type "tuple"), dict := none, data := (Data.seq ⟨[]⟩ 0), slots := ⟨[]⟩ }
noncomputable def ob179 : Params → Obj := fun P => { cls := Value.none, dict := none, data := (Data.func { name := (Str.ofString "set_seq2"), qualname := (Str.ofString "SequenceMatcher.set_seq2"), params := fParams (stAt (cBody clsF) 4), body := .stmts (fBody (stAt (cBody clsF) 4)), scope := fScope (stAt (cBody clsF) 4), globals := 0, closure := [], defaults := Value.none, kwdefaults := Value.none, doc := Value.none, pyModule := Value.none, annotations := none, code := Value.none, closureTuple := Value.none, builtins := 0 }), slots := ⟨[]⟩ }
noncomputable def ob180 : Params → Obj := fun P => { cls := (Value.type "code"), dict := none, data := (Data.fields ⟨[(Value.str (Str.ofString "set_seq2") 437), (Value.str (Str.ofString "SequenceMatcher.set_seq2") 438), (Value.str (Str.ofString "/claim/cut.py") 439), (Value.int 209 0), (Value.int 2 0), (Value.int 0 0), (Value.int 0 0), (Value.int 3 0), (Value.ref 175), (Value.bool true), (Value.int 181 0), (Value.ref 176), Value.none, (Value.ref 177), (Value.ref 178), (Value.ref 179), (Value.int 442 0), (Value.int 209 0), (Value.str (Str.ofString "/claim/cut.py") 443)]⟩), slots := ⟨[]⟩ }
noncomputable def ob181 : Params → Obj := fun P => { cls := (Value.type "function"), dict := none, data := (Data.func { name := (Str.ofString "set_seq2"), qualname := (Str.ofString "SequenceMatcher.set_seq2"), params := fParams (stAt (cBody clsF) 4), body := .stmts (fBody (stAt (cBody clsF) 4)), scope := fScope (stAt (cBody clsF) 4), globals := 3, closure := [], defaults := Value.none, kwdefaults := Value.none, doc := (Value.str doc4 444), pyModule := (Value.str (Str.ofString "cpy313.difflib") 194), annotations := none, code := (Value.ref 180), closureTuple := Value.none, builtins := 0 }), slots := ⟨[]⟩ }
noncomputable def ob182 : Params → Obj := fun P => { cls := (Value.type "tuple"), dict := none, data := (Data.seq ⟨[]⟩ 0), slots := ⟨[]⟩ }
noncomputable def ob183 : Params → Obj := fun P => { cls := Value.none, dict := none, data := (Data.fields ⟨[]⟩), slots := ⟨[]⟩ }
noncomputable def ob184 : Params → Obj := fun P => { cls := (Value.type "tuple"), dict := none, data := (Data.seq ⟨[(Value.str (Str.ofString "self") 449), (Value.str (Str.ofString "b") 450), (Value.str (Str.ofString "b2j") 451), (Value.str (Str.ofString "i") 452), (Value.str (Str.ofString "elt") 453), (Value.str (Str.ofString "indices") 454), (Value.str (Str.ofString "junk") 455), (Value.str (Str.ofString "isjunk") 456), (Value.str (Str.ofString "popular") 457), (Value.str (Str.ofString "n") 458), (Value.str (Str.ofString "ntest") 459), (Value.str (Str.ofString "idxs") 460)]⟩ 0), slots := ⟨[]⟩ }
noncomputable def ob185 : Params → Obj := fun P => { cls := (Value.type "tuple"), dict := none, data := (Data.seq ⟨[]⟩ 0), slots := ⟨[]⟩ }
noncomputable def ob186 : Params → Obj := fun P => { cls := Value.none, dict := none, data := (Data.func { name := (Str.ofString "__chain_b"), qualname := (Str.ofString "SequenceMatcher.__chain_b"), params := fParams (stAt (cBody clsF) 5), body := .stmts (fBody (stAt (cBody clsF) 5)), scope := fScope (stAt (cBody clsF) 5), globals := 0, closure := [], defaults := Value.none, kwdefaults := Value.none, doc := Value.none, pyModule := Value.none, annotations := none, code := Value.none, closureTuple := Value.none, builtins := 0 }), slots := ⟨[]⟩ }
noncomputable def ob187 : Params → Obj := fun P => { cls := (Value.type "code"), dict := none, data := (Data.fields ⟨[(Value.str (Str.ofString "__chain_b") 446), (Value.str (Str.ofString "SequenceMatcher.__chain_b") 447), (Value.str (Str.ofString "/claim/cut.py") 448), (Value.int 236 0), (Value.int 1 0), (Value.int 0 0), (Value.int 0 0), (Value.int 3 0), (Value.ref 182), (Value.bool true), (Value.int 181 0), (Value.ref 183), Value.none, (Value.ref 184), (Value.ref 185), (Value.ref 186), (Value.int 461 0), (Value.int 236 0), (Value.str (Str.ofString "/claim/cut.py") 462)]⟩), slots := ⟨[]⟩ }
noncomputable def ob188 : Params → Obj := fun P => { cls := (Value.type "function"), dict := none, data := (Data.func { name := (Str.ofString "__chain_b"), qualname := (Str.ofString "SequenceMatcher.__chain_b"), params := fParams (stAt (cBody clsF) 5), body := .stmts (fBody (stAt (cBody clsF) 5)), scope := fScope (stAt (cBody clsF) 5), globals := 3, closure := [], defaults := Value.none, kwdefaults := Value.none, doc := Value.none, pyModule := (Value.str (Str.ofString "cpy313.difflib") 194), annotations := none, code := (Value.ref 187), closureTuple := Value.none, builtins := 0 }), slots := ⟨[]⟩ }
noncomputable def ob189 : Params → Obj := fun P => { cls := (Value.type "tuple"), dict := none, data := (Data.seq ⟨[(Value.int 0 464), Value.none, (Value.int 0 465), Value.none]⟩ 0), slots := ⟨[]⟩ }
noncomputable def ob190 : Params → Obj := fun P => { cls := (Value.type "tuple"), dict := none, data := (Data.seq ⟨[]⟩ 0), slots := ⟨[]⟩ }
noncomputable def ob191 : Params → Obj := fun P => { cls := Value.none, dict := none, data := (Data.fields ⟨[]⟩), slots := ⟨[]⟩ }
noncomputable def ob192 : Params → Obj := fun P => { cls := (Value.type "tuple"), dict := none, data := (Data.seq ⟨[(Value.str (Str.ofString "self") 469), (Value.str (Str.ofString "alo") 470), (Value.str (Str.ofString "ahi") 471), (Value.str (Str.ofString "blo") 472), (Value.str (Str.ofString "bhi") 473), (Value.str (Str.ofString "a") 474), (Value.str (Str.ofString "b") 475), (Value.str (Str.ofString "b2j") 476), (Value.str (Str.ofString "isbjunk") 477), (Value.str (Str.ofString "besti") 478), (Value.str (Str.ofString "bestj") 479), (Value.str (Str.ofString "bestsize") 480), (Value.str (Str.ofString "j2len") 481), (Value.str (Str.ofString "nothing") 482), (Value.str (Str.ofString "i") 483), (Value.str (Str.ofString "j2lenget") 484), (Value.str (Str.ofString "newj2len") 485), (Value.str (Str.ofString "j") 486), (Value.str (Str.ofString "k") 487)]⟩ 0), slots := ⟨[]⟩ }
noncomputable def ob193 : Params → Obj := fun P => { cls := (Value.type "tuple"), dict := none, data := (Data.seq ⟨[]⟩ 0), slots := ⟨[]⟩ }
noncomputable def ob194 : Params → Obj := fun P => { cls := Value.none, dict := none, data := (Data.func { name := (Str.ofString "find_longest_match"), qualname := (Str.ofString "SequenceMatcher.find_longest_match"), params := fParams (stAt (cBody clsF) 6), body := .stmts (fBody (stAt (cBody clsF) 6)), scope := fScope (stAt (cBody clsF) 6), globals := 0, closure := [], defaults := Value.none, kwdefaults := Value.none, doc := Value.none, pyModule := Value.none, annotations := none, code := Value.none, closureTuple := Value.none, builtins := 0 }), slots := ⟨[]⟩ }
noncomputable def ob195 : Params → Obj := fun P => { cls := (Value.type "code"), dict := none, data := (Data.fields ⟨[(Value.str (Str.ofString "find_longest_match") 466), (Value.str (Str.ofString "SequenceMatcher.find_longest_match") 467), (Value.str (Str.ofString "/claim/cut.py") 468), (Value.int 260 0), (Value.int 5 0), (Value.int 0 0), (Value.int 0 0), (Value.int 3 0), (Value.ref 190), (Value.bool true), (Value.int 181 0), (Value.ref 191), Value.none, (Value.ref 192), (Value.ref 193), (Value.ref 194), (Value.int 488 0), (Value.int 260 0), (Value.str (Str.ofString "/claim/cut.py") 489)]⟩), slots := ⟨[]⟩ }
noncomputable def ob196 : Params → Obj := fun P => { cls := (Value.type "function"), dict := none, data := (Data.func { name := (Str.ofString "find_longest_match"), qualname := (Str.ofString "SequenceMatcher.find_longest_match"), params := fParams (stAt (cBody clsF) 6), body := .stmts (fBody (stAt (cBody clsF) 6)), scope := fScope (stAt (cBody clsF) 6), globals := 3, closure := [], defaults := (Value.ref 189), kwdefaults := Value.none, doc := (Value.str doc5 490), pyModule := (Value.str (Str.ofString "cpy313.difflib") 194), annotations := none, code := (Value.ref 195), closureTuple := Value.none, builtins := 0 }), slots := ⟨[]⟩ }
noncomputable def ob197 : Params → Obj := fun P => { cls := (Value.type "tuple"), dict := none, data := (Data.seq ⟨[]⟩ 0), slots := ⟨[]⟩ }
noncomputable def ob198 : Params → Obj := fun P => { cls := Value.none, dict := none, data := (Data.fields ⟨[]⟩), slots := ⟨[]⟩ }
noncomputable def ob199 : Params → Obj := fun P => { cls := (Value.type "tuple"), dict := none, data := (Data.seq ⟨[(Value.str (Str.ofString "self") 495), (Value.str (Str.ofString "la") 496), (Value.str (Str.ofString "lb") 497), (Value.str (Str.ofString "queue") 498), (Value.str (Str.ofString "matching_blocks") 499), (Value.str (Str.ofString "alo") 500), (Value.str (Str.ofString "ahi") 501), (Value.str (Str.ofString "blo") 502), (Value.str (Str.ofString "bhi") 503), (Value.str (Str.ofString "i") 504), (Value.str (Str.ofString "j") 505), (Value.str (Str.ofString "k") 506), (Value.str (Str.ofString "x") 507), (Value.str (Str.ofString "i1") 508), (Value.str (Str.ofString "j1") 509), (Value.str (Str.ofString "k1") 510), (Value.str (Str.ofString "non_adjacent") 511), (Value.str (Str.ofString "i2") 512), (Value.str (Str.ofString "j2") 513), (Value.str (Str.ofString "k2") 514)]⟩ 0), slots := ⟨[]⟩ }
noncomputable def ob200 : Params → Obj := fun P => { cls := (Value.type "tuple"), dict := none, data := (Data.seq ⟨[]⟩ 0), slots := ⟨[]⟩ }
noncomputable def ob201 : Params → Obj := fun P => { cls := Value.none, dict := none, data := (Data.func { name := (Str.ofString "get_matching_blocks"), qualname := (Str.ofString "SequenceMatcher.get_matching_blocks"), params := fParams (stAt (cBody clsF) 7), body := .stmts (fBody (stAt (cBody clsF) 7)), scope := fScope (stAt (cBody clsF) 7), globals := 0, closure := [], defaults := Value.none, kwdefaults := Value.none, doc := Value.none, pyModule := Value.none, annotations := none, code := Value.none, closureTuple := Value.none, builtins := 0 }), slots := ⟨[]⟩ }
noncomputable def ob202 : Params → Obj := fun P => { cls := (Value.type "code"), dict := none, data := (Data.fields ⟨[(Value.str (Str.ofString "get_matching_blocks") 492), (Value.str (Str.ofString "SequenceMatcher.get_matching_blocks") 493), (Value.str (Str.ofString "/claim/cut.py") 494), (Value.int 335 0), (Value.int 1 0), (Value.int 0 0), (Value.int 0 0), (Value.int 3 0), (Value.ref 197), (Value.bool true), (Value.int 181 0), (Value.ref 198), Value.none, (Value.ref 199), (Value.ref 200), (Value.ref 201), (Value.int 515 0), (Value.int 335 0), (Value.str (Str.ofString "/claim/cut.py") 516)]⟩), slots := ⟨[]⟩ }
noncomputable def ob203 : Params → Obj := fun P => { cls := (Value.type "function"), dict := none, data := (Data.func { name := (Str.ofString "get_matching_blocks"), qualname := (Str.ofString "SequenceMatcher.get_matching_blocks"), params := fParams (stAt (cBody clsF) 7), body := .stmts (fBody (stAt (cBody clsF) 7)), scope := fScope (stAt (cBody clsF) 7), globals := 3, closure := [], defaults := Value.none, kwdefaults := Value.none, doc := (Value.str doc6 517), pyModule := (Value.str (Str.ofString "cpy313.difflib") 194), annotations := none, code := (Value.ref 202), closureTuple := Value.none, builtins := 0 }), slots := ⟨[]⟩ }
noncomputable def ob204 : Params → Obj := fun P => { cls := (Value.type "tuple"), dict := none, data := (Data.seq ⟨[]⟩ 0), slots := ⟨[]⟩ }
noncomputable def ob205 : Params → Obj := fun P => { cls := Value.none, dict := none, data := (Data.fields ⟨[]⟩), slots := ⟨[]⟩ }
noncomputable def ob206 : Params → Obj := fun P => { cls := (Value.type "tuple"), dict := none, data := (Data.seq ⟨[(Value.str (Str.ofString "self") 522)]⟩ 0), slots := ⟨[]⟩ }
noncomputable def ob207 : Params → Obj := fun P => { cls := (Value.type "tuple"), dict := none, data := (Data.seq ⟨[]⟩ 0), slots := ⟨[]⟩ }
noncomputable def ob208 : Params → Obj := fun P => { cls := Value.none, dict := none, data := (Data.func { name := (Str.ofString "get_opcodes"), qualname := (Str.ofString "SequenceMatcher.get_opcodes"), params := fParams (stAt (cBody clsF) 8), body := .stmts (fBody (stAt (cBody clsF) 8)), scope := fScope (stAt (cBody clsF) 8), globals := 0, closure := [], defaults := Value.none, kwdefaults := Value.none, doc := Value.none, pyModule := Value.none, annotations := none, code := Value.none, closureTuple := Value.none, builtins := 0 }), slots := ⟨[]⟩ }
noncomputable def ob209 : Params → Obj := fun P => { cls := (Value.type "code"), dict := none, data := (Data.fields ⟨[(Value.str (Str.ofString "get_opcodes") 519), (Value.str (Str.ofString "SequenceMatcher.get_opcodes") 520), (Value.str (Str.ofString "/claim/cut.py") 521), (Value.int 383 0), (Value.int 1 0), (Value.int 0 0), (Value.int 0 0), (Value.int 3 0), (Value.ref 204), (Value.bool true), (Value.int 181 0), (Value.ref 205), Value.none, (Value.ref 206), (Value.ref 207), (Value.ref 208), (Value.int 523 0), (Value.int 383 0), (Value.str (Str.ofString "/claim/cut.py") 524)]⟩), slots := ⟨[]⟩ }
noncomputable def ob210 : Params → Obj := fun P => { cls := (Value.type "function"), dict := none, data := (Data.func { name := (Str.ofString "get_opcodes"), qualname := (Str.ofString "SequenceMatcher.get_opcodes"), params := fParams (stAt (cBody clsF) 8), body := .stmts (fBody (stAt (cBody clsF) 8)), scope := fScope (stAt (cBody clsF) 8), globals := 3, closure := [], defaults := Value.none, kwdefaults := Value.none, doc := Value.none, pyModule := (Value.str (Str.ofString "cpy313.difflib") 194), annotations := none, code := (Value.ref 209), closureTuple := Value.none, builtins := 0 }), slots := ⟨[]⟩ }
noncomputable def ob211 : Params → Obj := fun P => { cls := (Value.type "tuple"), dict := none, data := (Data.seq ⟨[(Value.int 3 526)]⟩ 0), slots := ⟨[]⟩ }
noncomputable def ob212 : Params → Obj := fun P => { cls := (Value.type "tuple"), dict := none, data := (Data.seq ⟨[]⟩ 0), slots := ⟨[]⟩ }
noncomputable def ob213 : Params → Obj := fun P => { cls := Value.none, dict := none, data := (Data.fields ⟨[]⟩), slots := ⟨[]⟩ }
noncomputable def ob214 : Params → Obj := fun P => { cls := (Value.type "tuple"), dict := none, data := (Data.seq ⟨[(Value.str (Str.ofString "self") 530), (Value.str (Str.ofString "n") 531)]⟩ 0), slots := ⟨[]⟩ }
noncomputable def ob215 : Params → Obj := fun P => { cls := (Value.type "tuple"), dict := none, data := (Data.seq ⟨[]⟩ 0), slots := ⟨[]⟩ }
noncomputable def ob216 : Params → Obj := fun P => { cls := Value.none, dict := none, data := (Data.func { name := (Str.ofString "get_grouped_opcodes"), qualname := (Str.ofString "SequenceMatcher.get_grouped_opcodes"), params := fParams (stAt (cBody clsF) 9), body := .stmts (fBody (stAt (cBody clsF) 9)), scope := fScope (stAt (cBody clsF) 9), globals := 0, closure := [], defaults := Value.none, kwdefaults := Value.none, doc := Value.none, pyModule := Value.none, annotations := none, code := Value.none, closureTuple := Value.none, builtins := 0 }), slots := ⟨[]⟩ }
noncomputable def ob217 : Params → Obj := fun P => { cls := (Value.type "code"), dict := none, data := (Data.fields ⟨[(Value.str (Str.ofString "get_grouped_opcodes") 527), (Value.str (Str.ofString "SequenceMatcher.get_grouped_opcodes") 528), (Value.str (Str.ofString "/claim/cut.py") 529), (Value.int 386 0), (Value.int 2 0), (Value.int 0 0), (Value.int 0 0), (Value.int 3 0), (Value.ref 212), (Value.bool true), (Value.int 181 0), (Value.ref 213), Value.none, (Value.ref 214), (Value.ref 215), (Value.ref 216), (Value.int 532 0), (Value.int 386 0), (Value.str (Str.ofString "/claim/cut.py") 533)]⟩), slots := ⟨[]⟩ }
noncomputable def ob218 : Params → Obj := fun P => { cls := (Value.type "function"), dict := none, data := (Data.func { name := (Str.ofString "get_grouped_opcodes"), qualname := (Str.ofString "SequenceMatcher.get_grouped_opcodes"), params := fParams (stAt (cBody clsF) 9), body := .stmts (fBody (stAt (cBody clsF) 9)), scope := fScope (stAt (cBody clsF) 9), globals := 3, closure := [], defaults := (Value.ref 211), kwdefaults := Value.none, doc := Value.none, pyModule := (Value.str (Str.ofString "cpy313.difflib") 194), annotations := none, code := (Value.ref 217), closureTuple := Value.none, builtins := 0 }), slots := ⟨[]⟩ }
noncomputable def ob219 : Params → Obj := fun P => { cls := (Value.type "tuple"), dict := none, data := (Data.seq ⟨[]⟩ 0), slots := ⟨[]⟩ }
noncomputable def ob220 : Params → Obj := fun P => { cls := Value.none, dict := none, data := (Data.fields ⟨[]⟩), slots := ⟨[]⟩ }
noncomputable def ob221 : Params → Obj := fun P => { cls := (Value.type "tuple"), dict := none, data := (Data.seq ⟨[(Value.str (Str.ofString "self") 538), (Value.str (Str.ofString "matches") 539)]⟩ 0), slots := ⟨[]⟩ }
noncomputable def ob222 : Params → Obj := fun P => { cls := (Value.type "tuple"), dict := none, data := (Data.seq ⟨[]⟩ 0), slots := ⟨[]⟩ }
noncomputable def ob223 : Params → Obj := fun P => { cls := Value.none, dict := none, data := (Data.func { name := (Str.ofString "ratio"), qualname := (Str.ofString "SequenceMatcher.ratio"), params := fParams (stAt (cBody clsF) 10), body := .stmts (fBody (stAt (cBody clsF) 10)), scope := fScope (stAt (cBody clsF) 10), globals := 0, closure := [], defaults := Value.none, kwdefaults := Value.none, doc := Value.none, pyModule := Value.none, annotations := none, code := Value.none, closureTuple := Value.none, builtins := 0 }), slots := ⟨[]⟩ }
noncomputable def ob224 : Params → Obj := fun P => { cls := (Value.type "code"), dict := none, data := (Data.fields ⟨[(Value.str (Str.ofString "ratio") 535), (Value.str (Str.ofString "SequenceMatcher.ratio") 536), (Value.str (Str.ofString "/claim/cut.py") 537), (Value.int 389 0), (Value.int 1 0), (Value.int 0 0), (Value.int 0 0), (Value.int 3 0), (Value.ref 219), (Value.bool true), (Value.int 181 0), (Value.ref 220), Value.none, (Value.ref 221), (Value.ref 222), (Value.ref 223), (Value.int 540 0), (Value.int 389 0), (Value.str (Str.ofString "/claim/cut.py") 541)]⟩), slots := ⟨[]⟩ }
noncomputable def ob225 : Params → Obj := fun P => { cls := (Value.type "function"), dict := none, data := (Data.func { name := (Str.ofString "ratio"), qualname := (Str.ofString "SequenceMatcher.ratio"), params := fParams (stAt (cBody clsF) 10), body := .stmts (fBody (stAt (cBody clsF) 10)), scope := fScope (stAt (cBody clsF) 10), globals := 3, closure := [], defaults := Value.none, kwdefaults := Value.none, doc := (Value.str doc7 542), pyModule := (Value.str (Str.ofString "cpy313.difflib") 194), annotations := none, code := (Value.ref 224), closureTuple := Value.none, builtins := 0 }), slots := ⟨[]⟩ }
noncomputable def ob226 : Params → Obj := fun P => { cls := (Value.type "tuple"), dict := none, data := (Data.seq ⟨[]⟩ 0), slots := ⟨[]⟩ }
noncomputable def ob227 : Params → Obj := fun P => { cls := Value.none, dict := none, data := (Data.fields ⟨[]⟩), slots := ⟨[]⟩ }
noncomputable def ob228 : Params → Obj := fun P => { cls := (Value.type "tuple"), dict := none, data := (Data.seq ⟨[(Value.str (Str.ofString "self") 547)]⟩ 0), slots := ⟨[]⟩ }
noncomputable def ob229 : Params → Obj := fun P => { cls := (Value.type "tuple"), dict := none, data := (Data.seq ⟨[]⟩ 0), slots := ⟨[]⟩ }
noncomputable def ob230 : Params → Obj := fun P => { cls := Value.none, dict := none, data := (Data.func { name := (Str.ofString "quick_ratio"), qualname := (Str.ofString "SequenceMatcher.quick_ratio"), params := fParams (stAt (cBody clsF) 11), body := .stmts (fBody (stAt (cBody clsF) 11)), scope := fScope (stAt (cBody clsF) 11), globals := 0, closure := [], defaults := Value.none, kwdefaults := Value.none, doc := Value.none, pyModule := Value.none, annotations := none, code := Value.none, closureTuple := Value.none, builtins := 0 }), slots := ⟨[]⟩ }
noncomputable def ob231 : Params → Obj := fun P => { cls := (Value.type "code"), dict := none, data := (Data.fields ⟨[(Value.str (Str.ofString "quick_ratio") 544), (Value.str (Str.ofString "SequenceMatcher.quick_ratio") 545), (Value.str (Str.ofString "/claim/cut.py") 546), (Value.int 413 0), (Value.int 1 0), (Value.int 0 0), (Value.int 0 0), (Value.int 3 0), (Value.ref 226), (Value.bool true), (Value.int 181 0), (Value.ref 227), Value.none, (Value.ref 228), (Value.ref 229), (Value.ref 230), (Value.int 548 0), (Value.int 413 0), (Value.str (Str.ofString "/claim/cut.py") 549)]⟩), slots := ⟨[]⟩ }
noncomputable def ob232 : Params → Obj := fun P => { cls := (Value.type "function"), dict := none, data := (Data.func { name := (Str.ofString "quick_ratio"), qualname := (Str.ofString "SequenceMatcher.quick_ratio"), params := fParams (stAt (cBody clsF) 11), body := .stmts (fBody (stAt (cBody clsF) 11)), scope := fScope (stAt (cBody clsF) 11), globals := 3, closure := [], defaults := Value.none, kwdefaults := Value.none, doc := Value.none, pyModule := (Value.str (Str.ofString "cpy313.difflib") 194), annotations := none, code := (Value.ref 231), closureTuple := Value.none, builtins := 0 }), slots := ⟨[]⟩ }
noncomputable def ob233 : Params → Obj := fun P => { cls := (Value.type "tuple"), dict := none, data := (Data.seq ⟨[]⟩ 0), slots := ⟨[]⟩ }
noncomputable def ob234 : Params → Obj := fun P => { cls := Value.none, dict := none, data := (Data.fields ⟨[]⟩), slots := ⟨[]⟩ }
noncomputable def ob235 : Params → Obj := fun P => { cls := (Value.type "tuple"), dict := none, data := (Data.seq ⟨[(Value.str (Str.ofString "self") 554)]⟩ 0), slots := ⟨[]⟩ }
noncomputable def ob236 : Params → Obj := fun P => { cls := (Value.type "tuple"), dict := none, data := (Data.seq ⟨[]⟩ 0), slots := ⟨[]⟩ }
noncomputable def ob237 : Params → Obj := fun P => { cls := Value.none, dict := none, data := (Data.func { name := (Str.ofString "real_quick_ratio"), qualname := (Str.ofString "SequenceMatcher.real_quick_ratio"), params := fParams (stAt (cBody clsF) 12), body := .stmts (fBody (stAt (cBody clsF) 12)), scope := fScope (stAt (cBody clsF) 12), globals := 0, closure := [], defaults := Value.none, kwdefaults := Value.none, doc := Value.none, pyModule := Value.none, annotations := none, code := Value.none, closureTuple := Value.none, builtins := 0 }), slots := ⟨[]⟩ }
noncomputable def ob238 : Params → Obj := fun P => { cls := (Value.type "code"), dict := none, data := (Data.fields ⟨[(Value.str (Str.ofString "real_quick_ratio") 551), (Value.str (Str.ofString "SequenceMatcher.real_quick_ratio") 552), (Value.str (Str.ofString "/claim/cut.py") 553), (Value.int 416 0), (Value.int 1 0), (Value.int 0 0), (Value.int 0 0), (Value.int 3 0), (Value.ref 233), (Value.bool true), (Value.int 181 0), (Value.ref 234), Value.none, (Value.ref 235), (Value.ref 236), (Value.ref 237), (Value.int 555 0), (Value.int 416 0), (Value.str (Str.ofString "/claim/cut.py") 556)]⟩), slots := ⟨[]⟩ }
noncomputable def ob239 : Params → Obj := fun P => { cls := (Value.type "function"), dict := none, data := (Data.func { name := (Str.ofString "real_quick_ratio"), qualname := (Str.ofString "SequenceMatcher.real_quick_ratio"), params := fParams (stAt (cBody clsF) 12), body := .stmts (fBody (stAt (cBody clsF) 12)), scope := fScope (stAt (cBody clsF) 12), globals := 3, closure := [], defaults := Value.none, kwdefaults := Value.none, doc := Value.none, pyModule := (Value.str (Str.ofString "cpy313.difflib") 194), annotations := none, code := (Value.ref 238), closureTuple := Value.none, builtins := 0 }), slots := ⟨[]⟩ }
noncomputable def ob240 : Params → Obj := fun P => { cls := (Value.type "tuple"), dict := none, data := (Data.seq ⟨[(Value.str (Str.ofString "a") 558), (Value.str (Str.ofString "autojunk") 559), (Value.str (Str.ofString "b") 560), (Value.str (Str.ofString "b2j") 561), (Value.str (Str.ofString "bjunk") 562), (Value.str (Str.ofString "bpopular") 563), (Value.str (Str.ofString "fullbcount") 564), (Value.str (Str.ofString "isjunk") 565), (Value.str (Str.ofString "matching_blocks") 566), (Value.str (Str.ofString "opcodes") 567)]⟩ 0), slots := ⟨[]⟩ }
noncomputable def ob241 : Params → Obj := fun P => { cls := (Value.type "dict"), dict := none, data := (Data.dict ⟨[⟨(PyData.keyHash P (Str.ofString "__module__")), (Value.str (Str.ofString "__module__") 396), (Value.str (Str.ofString "cpy313.difflib") 194)⟩, ⟨(PyData.keyHash P (Str.ofString "__firstlineno__")), (Value.str (Str.ofString "__firstlineno__") 400), (Value.int 70 399)⟩, ⟨(PyData.keyHash P (Str.ofString "__doc__")), (Value.str (Str.ofString "__doc__") 402), (Value.str doc0 401)⟩, ⟨(PyData.keyHash P (Str.ofString "__init__")), (Value.str (Str.ofString "__init__") 417), (Value.ref 160)⟩, ⟨(PyData.keyHash P (Str.ofString "set_seqs")), (Value.str (Str.ofString "set_seqs") 427), (Value.ref 167)⟩, ⟨(PyData.keyHash P (Str.ofString "set_seq1")), (Value.str (Str.ofString "set_seq1") 436), (Value.ref 174)⟩, ⟨(PyData.keyHash P (Str.ofString "set_seq2")), (Value.str (Str.ofString "set_seq2") 445), (Value.ref 181)⟩, ⟨(PyData.keyHash P (Str.ofString "_SequenceMatcher__chain_b")), (Value.str (Str.ofString "_SequenceMatcher__chain_b") 463), (Value.ref 188)⟩, ⟨(PyData.keyHash P (Str.ofString "find_longest_match")), (Value.str (Str.ofString "find_longest_match") 491), (Value.ref 196)⟩, ⟨(PyData.keyHash P (Str.ofString "get_matching_blocks")), (Value.str (Str.ofString "get_matching_blocks") 518), (Value.ref 203)⟩, ⟨(PyData.keyHash P (Str.ofString "get_opcodes")), (Value.str (Str.ofString "get_opcodes") 525), (Value.ref 210)⟩, ⟨(PyData.keyHash P (Str.ofString "get_grouped_opcodes")), (Value.str (Str.ofString "get_grouped_opcodes") 534), (Value.ref 218)⟩, ⟨(PyData.keyHash P (Str.ofString "ratio")), (Value.str (Str.ofString "ratio") 543), (Value.ref 225)⟩, ⟨(PyData.keyHash P (Str.ofString "quick_ratio")), (Value.str (Str.ofString "quick_ratio") 550), (Value.ref 232)⟩, ⟨(PyData.keyHash P (Str.ofString "real_quick_ratio")), (Value.str (Str.ofString "real_quick_ratio") 557), (Value.ref 239)⟩, ⟨(PyData.keyHash P (Str.ofString "__static_attributes__")), (Value.str (Str.ofString "__static_attributes__") 568), (Value.ref 240)⟩, ⟨(PyData.keyHash P (Str.ofString "__dict__")), (Value.str (Str.ofString "__dict__") 570), (Value.ref 243)⟩, ⟨(PyData.keyHash P (Str.ofString "__weakref__")), (Value.str (Str.ofString "__weakref__") 572), (Value.ref 244)⟩]⟩ 3), slots := ⟨[]⟩ }
noncomputable def ob242 : Params → Obj := fun P => { cls := (Value.type "type"), dict := none, data := (Data.cls { name := (Str.ofString "SequenceMatcher"), bases := [(Value.type "object")], mro := [(Value.ref 242), (Value.type "object")], ns := 241, qualname := (Str.ofString "SequenceMatcher"), hasDict := true, slotNames := [], subclasses := [], abstract := false, collection := none, hasDel := false }), slots := ⟨[none, none, (some (Value.str (Str.ofString "SequenceMatcher") 389)), (some (Value.str (Str.ofString "SequenceMatcher") 397)), (some (Value.builtin "object.__new__")), (some (Value.bool true))]⟩ }
noncomputable def ob243 : Params → Obj := fun P => { cls := (Value.type "getset_descriptor"), dict := none, data := (Data.fields ⟨[(Value.str (Str.ofString "__dict__") 569), (Value.ref 242), (Value.builtin "function.__dict__"), (Value.builtin "function.__dict__#set")]⟩), slots := ⟨[]⟩ }
noncomputable def ob244 : Params → Obj := fun P => { cls := (Value.type "getset_descriptor"), dict := none, data := (Data.fields ⟨[(Value.str (Str.ofString "__weakref__") 571), (Value.ref 242), (Value.builtin "ExceptionGroup.__weakref__"), Value.none]⟩), slots := ⟨[]⟩ }
noncomputable def ob245 : Params → Obj := fun P => { cls := (Value.type "super"), dict := none, data := (Data.fields ⟨[(Value.ref 242), (Value.ref 242), (Value.ref 242)]⟩), slots := ⟨[]⟩ }
noncomputable def ob246 : Params → Obj := fun P => { cls := (Value.type "builtin_function_or_method"), dict := none, data := (Data.fields ⟨[(Value.builtin "object.__init_subclass__"), (Value.ref 242)]⟩), slots := ⟨[]⟩ }
noncomputable def ob247 : Params → Obj := fun P => { cls := (Value.type "tuple"), dict := none, data := (Data.seq ⟨[(Value.int 1 577), (Value.int 2 578), (Value.int 3 579)]⟩ 0), slots := ⟨[]⟩ }
noncomputable def ob248 : Params → Obj := fun P => { cls := (Value.type "tuple"), dict := none, data := (Data.seq ⟨[]⟩ 0), slots := ⟨[]⟩ }
noncomputable def ob249 : Params → Obj := fun P => { cls := Value.none, dict := none, data := (Data.fields ⟨[]⟩), slots := ⟨[]⟩ }
noncomputable def ob250 : Params → Obj := fun P => { cls := (Value.type "tuple"), dict := none, data := (Data.seq ⟨[(Value.str (Str.ofString "item") 584)]⟩ 0), slots := ⟨[]⟩ }
noncomputable def ob251 : Params → Obj := fun P => { cls := (Value.type "tuple"), dict := none, data := (Data.seq ⟨[]⟩ 0), slots := ⟨[]⟩ }
noncomputable def ob252 : Params → Obj := fun P => { cls := Value.none, dict := none, data := (Data.func { name := (Str.ofString "_law_named"), qualname := (Str.ofString "_law_named"), params := fParams (stAt body0 8), body := .stmts (fBody (stAt body0 8)), scope := fScope (stAt body0 8), globals := 0, closure := [], defaults := Value.none, kwdefaults := Value.none, doc := Value.none, pyModule := Value.none, annotations := none, code := Value.none, closureTuple := Value.none, builtins := 0 }), slots := ⟨[]⟩ }
noncomputable def ob253 : Params → Obj := fun P => { cls := (Value.type "code"), dict := none, data := (Data.fields ⟨[(Value.str (Str.ofString "_law_named") 581), (Value.str (Str.ofString "_law_named") 582), (Value.str (Str.ofString "/claim/cut.py") 583), (Value.int 420 0), (Value.int 1 0), (Value.int 0 0), (Value.int 0 0), (Value.int 3 0), (Value.ref 248), (Value.bool true), (Value.int 181 0), (Value.ref 249), Value.none, (Value.ref 250), (Value.ref 251), (Value.ref 252), (Value.int 585 0), (Value.int 420 0), (Value.str (Str.ofString "/claim/cut.py") 586)]⟩), slots := ⟨[]⟩ }
noncomputable def ob254 : Params → Obj := fun P => { cls := (Value.type "function"), dict := none, data := (Data.func { name := (Str.ofString "_law_named"), qualname := (Str.ofString "_law_named"), params := fParams (stAt body0 8), body := .stmts (fBody (stAt body0 8)), scope := fScope (stAt body0 8), globals := 3, closure := [], defaults := Value.none, kwdefaults := Value.none, doc := Value.none, pyModule := (Value.str (Str.ofString "law_fd5001_01") 575), annotations := none, code := (Value.ref 253), closureTuple := Value.none, builtins := 0 }), slots := ⟨[]⟩ }
noncomputable def ob255 : Params → Obj := fun P => { cls := (Value.type "tuple"), dict := none, data := (Data.seq ⟨[]⟩ 0), slots := ⟨[]⟩ }
noncomputable def ob256 : Params → Obj := fun P => { cls := Value.none, dict := none, data := (Data.fields ⟨[]⟩), slots := ⟨[]⟩ }
noncomputable def ob257 : Params → Obj := fun P => { cls := Value.none, dict := none, data := (Data.func { name := (Str.ofString "_law_second"), qualname := (Str.ofString "_law_second"), params := fParams (stAt body0 9), body := .stmts (fBody (stAt body0 9)), scope := fScope (stAt body0 9), globals := 0, closure := [], defaults := Value.none, kwdefaults := Value.none, doc := Value.none, pyModule := Value.none, annotations := none, code := Value.none, closureTuple := Value.none, builtins := 0 }), slots := ⟨[]⟩ }
noncomputable def ob258 : Params → Obj := fun P => { cls := (Value.type "code"), dict := none, data := (Data.fields ⟨[(Value.str (Str.ofString "_law_second") 588), (Value.str (Str.ofString "_law_second") 589), (Value.str (Str.ofString "/claim/cut.py") 590), (Value.int 422 0), (Value.int 1 0), (Value.int 0 0), (Value.int 0 0), (Value.int 3 0), (Value.ref 255), (Value.bool true), (Value.int 181 0), (Value.ref 256), Value.none, Value.none, Value.none, (Value.ref 257), (Value.int 591 0), (Value.int 422 0), (Value.str (Str.ofString "/claim/cut.py") 592)]⟩), slots := ⟨[]⟩ }
noncomputable def ob259 : Params → Obj := fun P => { cls := (Value.type "function"), dict := none, data := (Data.func { name := (Str.ofString "_law_second"), qualname := (Str.ofString "_law_second"), params := fParams (stAt body0 9), body := .stmts (fBody (stAt body0 9)), scope := fScope (stAt body0 9), globals := 3, closure := [], defaults := Value.none, kwdefaults := Value.none, doc := Value.none, pyModule := (Value.str (Str.ofString "law_fd5001_01") 575), annotations := none, code := (Value.ref 258), closureTuple := Value.none, builtins := 0 }), slots := ⟨[]⟩ }
noncomputable def ob260 : Params → Obj := fun P => { cls := (Value.type "tuple"), dict := none, data := (Data.seq ⟨[]⟩ 0), slots := ⟨[]⟩ }
noncomputable def ob261 : Params → Obj := fun P => { cls := Value.none, dict := none, data := (Data.fields ⟨[]⟩), slots := ⟨[]⟩ }
noncomputable def ob262 : Params → Obj := fun P => { cls := (Value.type "tuple"), dict := none, data := (Data.seq ⟨[(Value.str (Str.ofString "first") 597), (Value.str (Str.ofString "second") 598), (Value.str (Str.ofString "places") 599), (Value.str (Str.ofString "window") 600), (Value.str (Str.ofString "alo") 601), (Value.str (Str.ofString "ahi") 602), (Value.str (Str.ofString "blo") 603), (Value.str (Str.ofString "bhi") 604), (Value.str (Str.ofString "besti") 605), (Value.str (Str.ofString "bestj") 606), (Value.str (Str.ofString "best") 607), (Value.str (Str.ofString "i") 608), (Value.str (Str.ofString "j") 609), (Value.str (Str.ofString "k") 610)]⟩ 0), slots := ⟨[]⟩ }
noncomputable def ob263 : Params → Obj := fun P => { cls := (Value.type "tuple"), dict := none, data := (Data.seq ⟨[]⟩ 0), slots := ⟨[]⟩ }
noncomputable def ob264 : Params → Obj := fun P => { cls := Value.none, dict := none, data := (Data.func { name := (Str.ofString "_law_heart"), qualname := (Str.ofString "_law_heart"), params := fParams (stAt body0 10), body := .stmts (fBody (stAt body0 10)), scope := fScope (stAt body0 10), globals := 0, closure := [], defaults := Value.none, kwdefaults := Value.none, doc := Value.none, pyModule := Value.none, annotations := none, code := Value.none, closureTuple := Value.none, builtins := 0 }), slots := ⟨[]⟩ }
noncomputable def ob265 : Params → Obj := fun P => { cls := (Value.type "code"), dict := none, data := (Data.fields ⟨[(Value.str (Str.ofString "_law_heart") 594), (Value.str (Str.ofString "_law_heart") 595), (Value.str (Str.ofString "/claim/cut.py") 596), (Value.int 429 0), (Value.int 4 0), (Value.int 0 0), (Value.int 0 0), (Value.int 3 0), (Value.ref 260), (Value.bool true), (Value.int 181 0), (Value.ref 261), Value.none, (Value.ref 262), (Value.ref 263), (Value.ref 264), (Value.int 611 0), (Value.int 429 0), (Value.str (Str.ofString "/claim/cut.py") 612)]⟩), slots := ⟨[]⟩ }
noncomputable def ob266 : Params → Obj := fun P => { cls := (Value.type "function"), dict := none, data := (Data.func { name := (Str.ofString "_law_heart"), qualname := (Str.ofString "_law_heart"), params := fParams (stAt body0 10), body := .stmts (fBody (stAt body0 10)), scope := fScope (stAt body0 10), globals := 3, closure := [], defaults := Value.none, kwdefaults := Value.none, doc := Value.none, pyModule := (Value.str (Str.ofString "law_fd5001_01") 575), annotations := none, code := (Value.ref 265), closureTuple := Value.none, builtins := 0 }), slots := ⟨[]⟩ }
noncomputable def ob267 : Params → Obj := fun P => { cls := (Value.type "tuple"), dict := none, data := (Data.seq ⟨[]⟩ 0), slots := ⟨[]⟩ }
noncomputable def ob268 : Params → Obj := fun P => { cls := Value.none, dict := none, data := (Data.fields ⟨[]⟩), slots := ⟨[]⟩ }
noncomputable def ob269 : Params → Obj := fun P => { cls := (Value.type "tuple"), dict := none, data := (Data.seq ⟨[(Value.str (Str.ofString "first") 617), (Value.str (Str.ofString "second") 618), (Value.str (Str.ofString "found") 619), (Value.str (Str.ofString "window") 620), (Value.str (Str.ofString "kinds") 621), (Value.str (Str.ofString "alo") 622), (Value.str (Str.ofString "ahi") 623), (Value.str (Str.ofString "blo") 624), (Value.str (Str.ofString "bhi") 625), (Value.str (Str.ofString "i") 626), (Value.str (Str.ofString "j") 627), (Value.str (Str.ofString "k") 628)]⟩ 0), slots := ⟨[]⟩ }
noncomputable def ob270 : Params → Obj := fun P => { cls := (Value.type "tuple"), dict := none, data := (Data.seq ⟨[]⟩ 0), slots := ⟨[]⟩ }
noncomputable def ob271 : Params → Obj := fun P => { cls := Value.none, dict := none, data := (Data.func { name := (Str.ofString "_law_grown"), qualname := (Str.ofString "_law_grown"), params := fParams (stAt body0 11), body := .stmts (fBody (stAt body0 11)), scope := fScope (stAt body0 11), globals := 0, closure := [], defaults := Value.none, kwdefaults := Value.none, doc := Value.none, pyModule := Value.none, annotations := none, code := Value.none, closureTuple := Value.none, builtins := 0 }), slots := ⟨[]⟩ }
noncomputable def ob272 : Params → Obj := fun P => { cls := (Value.type "code"), dict := none, data := (Data.fields ⟨[(Value.str (Str.ofString "_law_grown") 614), (Value.str (Str.ofString "_law_grown") 615), (Value.str (Str.ofString "/claim/cut.py") 616), (Value.int 441 0), (Value.int 5 0), (Value.int 0 0), (Value.int 0 0), (Value.int 3 0), (Value.ref 267), (Value.bool true), (Value.int 181 0), (Value.ref 268), Value.none, (Value.ref 269), (Value.ref 270), (Value.ref 271), (Value.int 629 0), (Value.int 441 0), (Value.str (Str.ofString "/claim/cut.py") 630)]⟩), slots := ⟨[]⟩ }
noncomputable def ob273 : Params → Obj := fun P => { cls := (Value.type "function"), dict := none, data := (Data.func { name := (Str.ofString "_law_grown"), qualname := (Str.ofString "_law_grown"), params := fParams (stAt body0 11), body := .stmts (fBody (stAt body0 11)), scope := fScope (stAt body0 11), globals := 3, closure := [], defaults := Value.none, kwdefaults := Value.none, doc := Value.none, pyModule := (Value.str (Str.ofString "law_fd5001_01") 575), annotations := none, code := (Value.ref 272), closureTuple := Value.none, builtins := 0 }), slots := ⟨[]⟩ }
noncomputable def ob274 : Params → Obj := fun P => { cls := (Value.type "tuple"), dict := none, data := (Data.seq ⟨[]⟩ 0), slots := ⟨[]⟩ }
noncomputable def ob275 : Params → Obj := fun P => { cls := Value.none, dict := none, data := (Data.fields ⟨[]⟩), slots := ⟨[]⟩ }
noncomputable def ob276 : Params → Obj := fun P => { cls := (Value.type "tuple"), dict := none, data := (Data.seq ⟨[(Value.str (Str.ofString "told") 635)]⟩ 0), slots := ⟨[]⟩ }
noncomputable def ob277 : Params → Obj := fun P => { cls := (Value.type "tuple"), dict := none, data := (Data.seq ⟨[]⟩ 0), slots := ⟨[]⟩ }
noncomputable def ob278 : Params → Obj := fun P => { cls := Value.none, dict := none, data := (Data.func { name := (Str.ofString "_law_plain"), qualname := (Str.ofString "_law_plain"), params := fParams (stAt body0 12), body := .stmts (fBody (stAt body0 12)), scope := fScope (stAt body0 12), globals := 0, closure := [], defaults := Value.none, kwdefaults := Value.none, doc := Value.none, pyModule := Value.none, annotations := none, code := Value.none, closureTuple := Value.none, builtins := 0 }), slots := ⟨[]⟩ }
noncomputable def ob279 : Params → Obj := fun P => { cls := (Value.type "code"), dict := none, data := (Data.fields ⟨[(Value.str (Str.ofString "_law_plain") 632), (Value.str (Str.ofString "_law_plain") 633), (Value.str (Str.ofString "/claim/cut.py") 634), (Value.int 449 0), (Value.int 1 0), (Value.int 0 0), (Value.int 0 0), (Value.int 3 0), (Value.ref 274), (Value.bool true), (Value.int 181 0), (Value.ref 275), Value.none, (Value.ref 276), (Value.ref 277), (Value.ref 278), (Value.int 636 0), (Value.int 449 0), (Value.str (Str.ofString "/claim/cut.py") 637)]⟩), slots := ⟨[]⟩ }
noncomputable def ob280 : Params → Obj := fun P => { cls := (Value.type "function"), dict := none, data := (Data.func { name := (Str.ofString "_law_plain"), qualname := (Str.ofString "_law_plain"), params := fParams (stAt body0 12), body := .stmts (fBody (stAt body0 12)), scope := fScope (stAt body0 12), globals := 3, closure := [], defaults := Value.none, kwdefaults := Value.none, doc := Value.none, pyModule := (Value.str (Str.ofString "law_fd5001_01") 575), annotations := none, code := (Value.ref 279), closureTuple := Value.none, builtins := 0 }), slots := ⟨[]⟩ }
noncomputable def ob281 : Params → Obj := fun P => { cls := (Value.type "tuple"), dict := none, data := (Data.seq ⟨[]⟩ 0), slots := ⟨[]⟩ }
noncomputable def ob282 : Params → Obj := fun P => { cls := Value.none, dict := none, data := (Data.fields ⟨[]⟩), slots := ⟨[]⟩ }
noncomputable def ob283 : Params → Obj := fun P => { cls := (Value.type "tuple"), dict := none, data := (Data.seq ⟨[(Value.str (Str.ofString "script") 642), (Value.str (Str.ofString "n") 643), (Value.str (Str.ofString "second") 644), (Value.str (Str.ofString "places") 645), (Value.str (Str.ofString "k") 646), (Value.str (Str.ofString "first") 647), (Value.str (Str.ofString "x") 648), (Value.str (Str.ofString "start") 649), (Value.str (Str.ofString "free") 650), (Value.str (Str.ofString "named") 651), (Value.str (Str.ofString "size") 652), (Value.str (Str.ofString "windows") 653), (Value.str (Str.ofString "y") 654), (Value.str (Str.ofString "alo") 655), (Value.str (Str.ofString "ahi") 656), (Value.str (Str.ofString "blo") 657), (Value.str (Str.ofString "bhi") 658), (Value.str (Str.ofString "window") 659), (Value.str (Str.ofString "heart") 660), (Value.str (Str.ofString "held") 661), (Value.str (Str.ofString "whole") 662)]⟩ 0), slots := ⟨[]⟩ }
noncomputable def ob284 : Params → Obj := fun P => { cls := (Value.type "tuple"), dict := none, data := (Data.seq ⟨[]⟩ 0), slots := ⟨[]⟩ }
noncomputable def ob285 : Params → Obj := fun P => { cls := Value.none, dict := none, data := (Data.func { name := (Str.ofString "law"), qualname := (Str.ofString "law"), params := fParams (stAt body0 13), body := .stmts (fBody (stAt body0 13)), scope := fScope (stAt body0 13), globals := 0, closure := [], defaults := Value.none, kwdefaults := Value.none, doc := Value.none, pyModule := Value.none, annotations := none, code := Value.none, closureTuple := Value.none, builtins := 0 }), slots := ⟨[]⟩ }
noncomputable def ob286 : Params → Obj := fun P => { cls := (Value.type "code"), dict := none, data := (Data.fields ⟨[(Value.str (Str.ofString "law") 639), (Value.str (Str.ofString "law") 640), (Value.str (Str.ofString "/claim/cut.py") 641), (Value.int 451 0), (Value.int 1 0), (Value.int 0 0), (Value.int 0 0), (Value.int 3 0), (Value.ref 281), (Value.bool true), (Value.int 181 0), (Value.ref 282), Value.none, (Value.ref 283), (Value.ref 284), (Value.ref 285), (Value.int 663 0), (Value.int 451 0), (Value.str (Str.ofString "/claim/cut.py") 664)]⟩), slots := ⟨[]⟩ }
noncomputable def ob287 : Params → Obj := fun P => { cls := (Value.type "function"), dict := none, data := (Data.func { name := (Str.ofString "law"), qualname := (Str.ofString "law"), params := fParams (stAt body0 13), body := .stmts (fBody (stAt body0 13)), scope := fScope (stAt body0 13), globals := 3, closure := [], defaults := Value.none, kwdefaults := Value.none, doc := Value.none, pyModule := (Value.str (Str.ofString "law_fd5001_01") 575), annotations := none, code := (Value.ref 286), closureTuple := Value.none, builtins := 0 }), slots := ⟨[]⟩ }
noncomputable def treeF : Params → BT := fun P => (.node (PySem.W.boot_o_0 P) (.node (PySem.W.boot_o_1 P) (.node (ob3 P) (.node (PySem.W.boot_o_7 P) (.node (hd.o_7 P) (.node (hd.o_23 P) (.node (hd.o_55 P) (.node (hd.o_122 P) (.node (ob255 P) .nil .nil) .nil) (.node (ob191 P) .nil .nil)) (.node (hd.o_90 P) (.node (ob159 P) (.node (ob287 P) .nil .nil) .nil) (.node (ob223 P) .nil .nil))) (.node (hd.o_39 P) (.node (hd.o_74 P) (.node (hd.o_213 P) (.node (ob271 P) .nil .nil) .nil) (.node (ob207 P) .nil .nil)) (.node (hd.o_106 P) (.node (ob175 P) .nil .nil) (.node (ob239 P) .nil .nil)))) (.node (hd.o_15 P) (.node (hd.o_31 P) (.node (hd.o_66 P) (.node (hd.o_130 P) (.node (ob263 P) .nil .nil) .nil) (.node (ob199 P) .nil .nil)) (.node (hd.o_98 P) (.node (ob167 P) .nil .nil) (.node (ob231 P) .nil .nil))) (.node (hd.o_47 P) (.node (hd.o_82 P) (.node (ob151 P) (.node (ob279 P) .nil .nil) .nil) (.node (ob215 P) .nil .nil)) (.node (hd.o_114 P) (.node (ob183 P) .nil .nil) (.node (ob247 P) .nil .nil))))) (.node (hd.o_1 P) (.node (hd.o_11 P) (.node (hd.o_27 P) (.node (hd.o_62 P) (.node (hd.o_126 P) (.node (ob259 P) .nil .nil) .nil) (.node (ob195 P) .nil .nil)) (.node (hd.o_94 P) (.node (ob163 P) .nil .nil) (.node (ob227 P) .nil .nil))) (.node (hd.o_43 P) (.node (hd.o_78 P) (.node (ob147 P) (.node (ob275 P) .nil .nil) .nil) (.node (ob211 P) .nil .nil)) (.node (hd.o_110 P) (.node (ob179 P) .nil .nil) (.node (ob243 P) .nil .nil)))) (.node (hd.o_19 P) (.node (hd.o_35 P) (.node (hd.o_70 P) (.node (hd.o_209 P) (.node (ob267 P) .nil .nil) .nil) (.node (ob203 P) .nil .nil)) (.node (hd.o_102 P) (.node (ob171 P) .nil .nil) (.node (ob235 P) .nil .nil))) (.node (hd.o_51 P) (.node (hd.o_86 P) (.node (ob155 P) (.node (ob283 P) .nil .nil) .nil) (.node (ob219 P) .nil .nil)) (.node (hd.o_118 P) (.node (ob187 P) .nil .nil) (.node (ob251 P) .nil .nil)))))) (.node (PySem.W.boot_o_5 P) (.node (PySem.W.boot_o_9 P) (.node (hd.o_9 P) (.node (hd.o_25 P) (.node (hd.o_60 P) (.node (hd.o_124 P) (.node (ob257 P) .nil .nil) .nil) (.node (ob193 P) .nil .nil)) (.node (hd.o_92 P) (.node (ob161 P) .nil .nil) (.node (ob225 P) .nil .nil))) (.node (hd.o_41 P) (.node (hd.o_76 P) (.node (hd.o_215 P) (.node (ob273 P) .nil .nil) .nil) (.node (ob209 P) .nil .nil)) (.node (hd.o_108 P) (.node (ob177 P) .nil .nil) (.node (ob241 P) .nil .nil)))) (.node (hd.o_17 P) (.node (hd.o_33 P) (.node (hd.o_68 P) (.node (hd.o_132 P) (.node (ob265 P) .nil .nil) .nil) (.node (ob201 P) .nil .nil)) (.node (hd.o_100 P) (.node (ob169 P) .nil .nil) (.node (ob233 P) .nil .nil))) (.node (hd.o_49 P) (.node (hd.o_84 P) (.node (ob153 P) (.node (ob281 P) .nil .nil) .nil) (.node (ob217 P) .nil .nil)) (.node (hd.o_116 P) (.node (ob185 P) .nil .nil) (.node (ob249 P) .nil .nil))))) (.node (hd.o_3 P) (.node (hd.o_13 P) (.node (hd.o_29 P) (.node (hd.o_64 P) (.node (hd.o_128 P) (.node (ob261 P) .nil .nil) .nil) (.node (ob197 P) .nil .nil)) (.node (hd.o_96 P) (.node (ob165 P) .nil .nil) (.node (ob229 P) .nil .nil))) (.node (hd.o_45 P) (.node (hd.o_80 P) (.node (ob149 P) (.node (ob277 P) .nil .nil) .nil) (.node (ob213 P) .nil .nil)) (.node (hd.o_112 P) (.node (ob181 P) .nil .nil) (.node (ob245 P) .nil .nil)))) (.node (hd.o_21 P) (.node (hd.o_37 P) (.node (hd.o_72 P) (.node (hd.o_211 P) (.node (ob269 P) .nil .nil) .nil) (.node (ob205 P) .nil .nil)) (.node (hd.o_104 P) (.node (ob173 P) .nil .nil) (.node (ob237 P) .nil .nil))) (.node (hd.o_53 P) (.node (hd.o_88 P) (.node (ob157 P) (.node (ob285 P) .nil .nil) .nil) (.node (ob221 P) .nil .nil)) (.node (hd.o_120 P) (.node (ob189 P) .nil .nil) (.node (ob253 P) .nil .nil))))))) (.node (PySem.W.boot_o_2 P) (.node (PySem.W.boot_o_4 P) (.node (PySem.W.boot_o_8 P) (.node (hd.o_8 P) (.node (hd.o_24 P) (.node (hd.o_56 P) (.node (hd.o_123 P) (.node (ob256 P) .nil .nil) .nil) (.node (ob192 P) .nil .nil)) (.node (hd.o_91 P) (.node (ob160 P) .nil .nil) (.node (ob224 P) .nil .nil))) (.node (hd.o_40 P) (.node (hd.o_75 P) (.node (hd.o_214 P) (.node (ob272 P) .nil .nil) .nil) (.node (ob208 P) .nil .nil)) (.node (hd.o_107 P) (.node (ob176 P) .nil .nil) (.node (ob240 P) .nil .nil)))) (.node (hd.o_16 P) (.node (hd.o_32 P) (.node (hd.o_67 P) (.node (hd.o_131 P) (.node (ob264 P) .nil .nil) .nil) (.node (ob200 P) .nil .nil)) (.node (hd.o_99 P) (.node (ob168 P) .nil .nil) (.node (ob232 P) .nil .nil))) (.node (hd.o_48 P) (.node (hd.o_83 P) (.node (ob152 P) (.node (ob280 P) .nil .nil) .nil) (.node (ob216 P) .nil .nil)) (.node (hd.o_115 P) (.node (ob184 P) .nil .nil) (.node (ob248 P) .nil .nil))))) (.node (ob12 P) (.node (hd.o_12 P) (.node (hd.o_28 P) (.node (hd.o_63 P) (.node (hd.o_127 P) (.node (ob260 P) .nil .nil) .nil) (.node (ob196 P) .nil .nil)) (.node (hd.o_95 P) (.node (ob164 P) .nil .nil) (.node (ob228 P) .nil .nil))) (.node (hd.o_44 P) (.node (hd.o_79 P) (.node (ob148 P) (.node (ob276 P) .nil .nil) .nil) (.node (ob212 P) .nil .nil)) (.node (hd.o_111 P) (.node (ob180 P) .nil .nil) (.node (ob244 P) .nil .nil)))) (.node (hd.o_20 P) (.node (hd.o_36 P) (.node (hd.o_71 P) (.node (hd.o_210 P) (.node (ob268 P) .nil .nil) .nil) (.node (ob204 P) .nil .nil)) (.node (hd.o_103 P) (.node (ob172 P) .nil .nil) (.node (ob236 P) .nil .nil))) (.node (hd.o_52 P) (.node (hd.o_87 P) (.node (ob156 P) (.node (ob284 P) .nil .nil) .nil) (.node (ob220 P) .nil .nil)) (.node (hd.o_119 P) (.node (ob188 P) .nil .nil) (.node (ob252 P) .nil .nil)))))) (.node (PySem.W.boot_o_6 P) (.node (PySem.W.boot_o_10 P) (.node (hd.o_10 P) (.node (hd.o_26 P) (.node (hd.o_61 P) (.node (hd.o_125 P) (.node (ob258 P) .nil .nil) .nil) (.node (ob194 P) .nil .nil)) (.node (hd.o_93 P) (.node (ob162 P) .nil .nil) (.node (ob226 P) .nil .nil))) (.node (hd.o_42 P) (.node (hd.o_77 P) (.node (ob146 P) (.node (ob274 P) .nil .nil) .nil) (.node (ob210 P) .nil .nil)) (.node (hd.o_109 P) (.node (ob178 P) .nil .nil) (.node (ob242 P) .nil .nil)))) (.node (hd.o_18 P) (.node (hd.o_34 P) (.node (hd.o_69 P) (.node (hd.o_133 P) (.node (ob266 P) .nil .nil) .nil) (.node (ob202 P) .nil .nil)) (.node (hd.o_101 P) (.node (ob170 P) .nil .nil) (.node (ob234 P) .nil .nil))) (.node (hd.o_50 P) (.node (hd.o_85 P) (.node (ob154 P) (.node (ob282 P) .nil .nil) .nil) (.node (ob218 P) .nil .nil)) (.node (hd.o_117 P) (.node (ob186 P) .nil .nil) (.node (ob250 P) .nil .nil))))) (.node (hd.o_4 P) (.node (hd.o_14 P) (.node (hd.o_30 P) (.node (hd.o_65 P) (.node (hd.o_129 P) (.node (ob262 P) .nil .nil) .nil) (.node (ob198 P) .nil .nil)) (.node (hd.o_97 P) (.node (ob166 P) .nil .nil) (.node (ob230 P) .nil .nil))) (.node (hd.o_46 P) (.node (hd.o_81 P) (.node (ob150 P) (.node (ob278 P) .nil .nil) .nil) (.node (ob214 P) .nil .nil)) (.node (hd.o_113 P) (.node (ob182 P) .nil .nil) (.node (ob246 P) .nil .nil)))) (.node (hd.o_22 P) (.node (hd.o_38 P) (.node (hd.o_73 P) (.node (hd.o_212 P) (.node (ob270 P) .nil .nil) .nil) (.node (ob206 P) .nil .nil)) (.node (hd.o_105 P) (.node (ob174 P) .nil .nil) (.node (ob238 P) .nil .nil))) (.node (hd.o_54 P) (.node (hd.o_89 P) (.node (ob158 P) (.node (ob286 P) .nil .nil) .nil) (.node (ob222 P) .nil .nil)) (.node (hd.o_121 P) (.node (ob190 P) .nil .nil) (.node (ob254 P) .nil .nil))))))))
noncomputable def heapF : Params → Heap := fun P => ⟨⟨[PySem.W.boot_o_0 P, PySem.W.boot_o_1 P, PySem.W.boot_o_2 P, ob3 P, PySem.W.boot_o_4 P, PySem.W.boot_o_5 P, PySem.W.boot_o_6 P, PySem.W.boot_o_7 P, PySem.W.boot_o_8 P, PySem.W.boot_o_9 P, PySem.W.boot_o_10 P, hd.o_1 P, ob12 P, hd.o_3 P, hd.o_4 P, hd.o_7 P, hd.o_8 P, hd.o_9 P, hd.o_10 P, hd.o_11 P, hd.o_12 P, hd.o_13 P, hd.o_14 P, hd.o_15 P, hd.o_16 P, hd.o_17 P, hd.o_18 P, hd.o_19 P, hd.o_20 P, hd.o_21 P, hd.o_22 P, hd.o_23 P, hd.o_24 P, hd.o_25 P, hd.o_26 P, hd.o_27 P, hd.o_28 P, hd.o_29 P, hd.o_30 P, hd.o_31 P, hd.o_32 P, hd.o_33 P, hd.o_34 P, hd.o_35 P, hd.o_36 P, hd.o_37 P, hd.o_38 P, hd.o_39 P, hd.o_40 P, hd.o_41 P, hd.o_42 P, hd.o_43 P, hd.o_44 P, hd.o_45 P, hd.o_46 P, hd.o_47 P, hd.o_48 P, hd.o_49 P, hd.o_50 P, hd.o_51 P, hd.o_52 P, hd.o_53 P, hd.o_54 P, hd.o_55 P, hd.o_56 P, hd.o_60 P, hd.o_61 P, hd.o_62 P, hd.o_63 P, hd.o_64 P, hd.o_65 P, hd.o_66 P, hd.o_67 P, hd.o_68 P, hd.o_69 P, hd.o_70 P, hd.o_71 P, hd.o_72 P, hd.o_73 P, hd.o_74 P, hd.o_75 P, hd.o_76 P, hd.o_77 P, hd.o_78 P, hd.o_79 P, hd.o_80 P, hd.o_81 P, hd.o_82 P, hd.o_83 P, hd.o_84 P, hd.o_85 P, hd.o_86 P, hd.o_87 P, hd.o_88 P, hd.o_89 P, hd.o_90 P, hd.o_91 P, hd.o_92 P, hd.o_93 P, hd.o_94 P, hd.o_95 P, hd.o_96 P, hd.o_97 P, hd.o_98 P, hd.o_99 P, hd.o_100 P, hd.o_101 P, hd.o_102 P, hd.o_103 P, hd.o_104 P, hd.o_105 P, hd.o_106 P, hd.o_107 P, hd.o_108 P, hd.o_109 P, hd.o_110 P, hd.o_111 P, hd.o_112 P, hd.o_113 P, hd.o_114 P, hd.o_115 P, hd.o_116 P, hd.o_117 P, hd.o_118 P, hd.o_119 P, hd.o_120 P, hd.o_121 P, hd.o_122 P, hd.o_123 P, hd.o_124 P, hd.o_125 P, hd.o_126 P, hd.o_127 P, hd.o_128 P, hd.o_129 P, hd.o_130 P, hd.o_131 P, hd.o_132 P, hd.o_133 P, hd.o_209 P, hd.o_210 P, hd.o_211 P, hd.o_212 P, hd.o_213 P, hd.o_214 P, hd.o_215 P, ob146 P, ob147 P, ob148 P, ob149 P, ob150 P, ob151 P, ob152 P, ob153 P, ob154 P, ob155 P, ob156 P, ob157 P, ob158 P, ob159 P, ob160 P, ob161 P, ob162 P, ob163 P, ob164 P, ob165 P, ob166 P, ob167 P, ob168 P, ob169 P, ob170 P, ob171 P, ob172 P, ob173 P, ob174 P, ob175 P, ob176 P, ob177 P, ob178 P, ob179 P, ob180 P, ob181 P, ob182 P, ob183 P, ob184 P, ob185 P, ob186 P, ob187 P, ob188 P, ob189 P, ob190 P, ob191 P, ob192 P, ob193 P, ob194 P, ob195 P, ob196 P, ob197 P, ob198 P, ob199 P, ob200 P, ob201 P, ob202 P, ob203 P, ob204 P, ob205 P, ob206 P, ob207 P, ob208 P, ob209 P, ob210 P, ob211 P, ob212 P, ob213 P, ob214 P, ob215 P, ob216 P, ob217 P, ob218 P, ob219 P, ob220 P, ob221 P, ob222 P, ob223 P, ob224 P, ob225 P, ob226 P, ob227 P, ob228 P, ob229 P, ob230 P, ob231 P, ob232 P, ob233 P, ob234 P, ob235 P, ob236 P, ob237 P, ob238 P, ob239 P, ob240 P, ob241 P, ob242 P, ob243 P, ob244 P, ob245 P, ob246 P, ob247 P, ob248 P, ob249 P, ob250 P, ob251 P, ob252 P, ob253 P, ob254 P, ob255 P, ob256 P, ob257 P, ob258 P, ob259 P, ob260 P, ob261 P, ob262 P, ob263 P, ob264 P, ob265 P, ob266 P, ob267 P, ob268 P, ob269 P, ob270 P, ob271 P, ob272 P, ob273 P, ob274 P, ob275 P, ob276 P, ob277 P, ob278 P, ob279 P, ob280 P, ob281 P, ob282 P, ob283 P, ob284 P, ob285 P, ob286 P, ob287 P]⟩, {}⟩
noncomputable def heapA : Params → Heap := fun P => ⟨⟨[PySem.W.boot_o_0 P, PySem.W.boot_o_1 P, PySem.W.boot_o_2 P, PySem.W.boot_o_3 P, PySem.W.boot_o_4 P, PySem.W.boot_o_5 P, PySem.W.boot_o_6 P, PySem.W.boot_o_7 P, PySem.W.boot_o_8 P, PySem.W.boot_o_9 P, PySem.W.boot_o_10 P, hd.o_1 P, hd.o_2 P, hd.o_3 P, hd.o_4 P]⟩, {}⟩


noncomputable def restF : List Stmt := clsF :: body0.drop 6
def bodyF : List Stmt := behindTheImports PySem.Challenge.pw_fd5001_01
theorem body_eq : bodyF = hd.sts_4 ++ (hd.sts_58 ++ (hd.sts_207 ++ (restF ++ []))) := by
  rw [List.append_nil]
  unfold restF
  rw [← cls_eq]
  kernel_rfl


theorem run_rest (w : World) (os : OsState) : segRunT treeTable PySem.Challenge.pw_fd5001_01 w 11 (some (Value.ref 6)) 1 886
    ⟨hd.tree_215 w.params, 146, {}, ⟨[]⟩, {}, 389, os⟩ (piecesOf restF hd.env_1 (Code.body bodyF hd.env_1) ⟨66, 0, 69, 14⟩ [topFrame ⟨0, 0, 0, 0⟩]) =
    some (Flow.next, ⟨treeF w.params, 288, {}, ⟨[]⟩, {}, 666, os⟩, Code.body bodyF hd.env_1, ⟨451, 0, 484, 102⟩) := by
  have h : PySem.W.Fast.tw10110043849684766642 tb PySem.Challenge.pw_fd5001_01 w 11 (some (Value.ref 6)) 1 886
      ⟨hd.tree_215 w.params, 146, {}, ⟨[]⟩, {}, 389, os⟩ (piecesOf restF hd.env_1 (Code.body bodyF hd.env_1) ⟨66, 0, 69, 14⟩ [topFrame ⟨0, 0, 0, 0⟩]) =
      some (Flow.next, ⟨treeF w.params, 288, {}, ⟨[]⟩, {}, 666, os⟩, Code.body bodyF hd.env_1, ⟨451, 0, 484, 102⟩) := by kernel_rfl
  rw [tb_eq, PySem.W.Fast.te10110043849684766642]
  exact h
theorem run_fin (w : World) (os : OsState) : topRun treeTable PySem.Challenge.pw_fd5001_01 w 11 (some (Value.ref 6)) 2
    (SharedT.abs ⟨treeF w.params, 288, {}, ⟨[]⟩, {}, 666, os⟩) (restOf [] hd.env_1 (Code.body bodyF hd.env_1) ⟨451, 0, 484, 102⟩ [topFrame ⟨0, 0, 0, 0⟩]) =
    some ⟨heapF w.params, ⟨[]⟩, {}, 666, os⟩ := by kernel_rfl
theorem run_block (w : World) (os : OsState) : segRun treeTable PySem.Challenge.pw_fd5001_01 w 11 (some (Value.ref 6)) 1 1
    ⟨heapA w.params, ⟨[]⟩, {}, 187, os⟩ (blockOf bodyF hd.env_1 (Code.body bodyF hd.env_1) ⟨0, 0, 0, 0⟩ [topFrame ⟨0, 0, 0, 0⟩]) =
    some (Flow.next, SharedT.abs ⟨hd.tree_4 w.params, 15, {}, ⟨[]⟩, {}, 187, os⟩, Code.body bodyF hd.env_1, ⟨0, 0, 0, 0⟩) := by kernel_rfl
theorem run_pre (w : World) (os : OsState) : topGo treeTable PySem.Challenge.pw_fd5001_01 w 11 (some (Value.ref 6)) 12 ⟨boot_heap w.params, ⟨[]⟩, boot_drawn, boot_toks, os⟩ (topStub PySem.Challenge.pw_fd5001_01) =
    some (⟨heapA w.params, ⟨[]⟩, {}, 187, os⟩, ⟨denote treeTable (Code.body bodyF hd.env_1), Code.body bodyF hd.env_1, ⟨0, 0, 0, 0⟩, [topFrame ⟨0, 0, 0, 0⟩]⟩) := by kernel_rfl
def topSteps : Nat := 12 + (1 + (Nat.add 362 (Nat.add 1047 (Nat.add 31 (886 + 2)))))
theorem run_top (w : World) (os : OsState) : topRun treeTable PySem.Challenge.pw_fd5001_01 w 11 (some (Value.ref 6)) topSteps ⟨boot_heap w.params, ⟨[]⟩, boot_drawn, boot_toks, os⟩ (topStub PySem.Challenge.pw_fd5001_01) =
    some ⟨heapF w.params, ⟨[]⟩, {}, 666, os⟩ := by
  refine go_top (run_pre w os) (piece_block (run_block w os) ?_)
  have h := hd.chain PySem.Challenge.pw_fd5001_01 bodyF w os (restF ++ []) (886 + 2) _ (piece_app (segRun_of (run_rest w os)) (run_fin w os))
  rw [← body_eq] at h
  exact h


def qv : Program := { PySem.Challenge.pw_fd5001_01 with main := { (PySem.Challenge.pw_fd5001_01).main with body := [stAt body0 13] } }
def looseV : List Str := [Str.ofString "_wall", Str.ofString "_tuplegetter", Str.ofString "Match", Str.ofString "_calculate_ratio", Str.ofString "SequenceMatcher", Str.ofString "_law_NOISE", Str.ofString "_law_named", Str.ofString "_law_second", Str.ofString "_law_heart", Str.ofString "_law_grown", Str.ofString "_law_plain"]
theorem looks1 (w : World) (os : OsState) : (staticsOk (importedModules (PySem.Challenge.pw_fd5001_01).main.body) (boot_heap w.params) (heapF w.params) && namesBound PySem.Challenge.pw_fd5001_01 (heapF w.params) && gensDone ⟨heapF w.params, ⟨[]⟩, {}, 666, os⟩ && laidKept (boot_heap w.params) (heapF w.params)) = true := by kernel_rfl
theorem looks2 (w : World) (os : OsState) : openSeen qv looseV (importedModules (PySem.Challenge.pw_fd5001_01).main.body) (fun _ => true) true ⟨heapF w.params, ⟨[]⟩, {}, 666, os⟩ = openGood qv looseV := by
  rw [PySem.W.Fast.te4187177175401517315]
  kernel_rfl
theorem top_opens : opening PySem.Challenge.pw_fd5001_01 = plainProg (PySem.Challenge.pw_fd5001_01).main.scope.names := by kernel_rfl
theorem top_fence (s : Shared) : fenceModules? PySem.Challenge.pw_fd5001_01 s = some s := by kernel_rfl
theorem left : LeftO PySem.Challenge.pw_fd5001_01 qv looseV (fun _ => true) (fun s => s.heap) (fun w => heapF w.params) 4770 :=
  LeftO.of_pieces (H₀ := boot_heap) (H₁ := heapF) (m₀ := 11) (ann := (some (Value.ref 6))) (boot_open top_opens (by decide) top_fence) (fun w => by kernel_rfl) (fun w os => run_top w os) (by kernel_rfl)
    (fun w => by funext os; exact Prod.ext (looks1 w os) (Prod.ext (looks2 w os) rfl))
def TopIs (w : World) (h : Heap) : Prop := ∀ b o, (heapF w.params).get? b = some o → h.get? b = some o
end Mine


open PySem PySem.W PyProof.Rows
set_option Elab.async false
set_option maxRecDepth 100000
set_option maxHeartbeats 1000000
set_option linter.unusedVariables false
namespace Mine
noncomputable def KF (P : Params) : Frag := (heapF P).objs.toList.zipIdx.map fun x => (x.2, x.1)
structure Ok (C : Cx) : Prop where
  hK : C.K = KF C.w.params
  hm : C.mC = 135
  hs : C.sC = 242
def docAt (K : Frag) (a : Nat) : Value := match K.lookup a with
  | some ⟨_, _, .func fd, _⟩ => fd.doc
  | _ => .none
def pmAt (K : Frag) (a : Nat) : Value := match K.lookup a with
  | some ⟨_, _, .func fd, _⟩ => fd.pyModule
  | _ => .none
def loopBody : Stmt → List Stmt
  | .For _ _ b _ _ => b
  | .While _ b _ _ => b
  | _ => []
def ifA : Stmt → List Stmt
  | .If _ a _ _ => a
  | _ => []
def ifB : Stmt → List Stmt
  | .If _ _ b _ => b
  | _ => []
def noise : List Int := [1, 2, 3]
section
variable {C : Cx}
theorem n__law_NOISE (H : Ok C) : nsIn C.K mainGlobals (Str.ofString "_law_NOISE") = some (some (.ref 247)) := by rw [H.hK]; kernel_rfl
theorem t__law_NOISE (H : Ok C) : C.K.lookup 247 = some { cls := .type "tuple", data := .seq [Value.int 1 577, .int 2 578, .int 3 579].toArray } := by rw [H.hK]; kernel_rfl
theorem i__law_NOISE : IntsAre [Value.int 1 577, .int 2 578, .int 3 579] noise := .cons _ _ (.cons _ _ (.cons _ _ .nil))
theorem s_pg (H : Ok C) {x : Str} : plainGet C.K C.sC x = true := by rw [H.hK, H.hs]; kernel_rfl
theorem s_hd (H : Ok C) : hasDictIn C.K C.sC = true := by rw [H.hK, H.hs]; kernel_rfl
theorem s_sa (H : Ok C) : findIn C.K (.ref C.sC) "__setattr__" = some (some (.builtin "object.__setattr__")) := by rw [H.hK, H.hs]; kernel_rfl
theorem s_po (H : Ok C) : plainOver C.K C.sC = true := by rw [H.hK, H.hs]; kernel_rfl
theorem s_mk (H : Ok C) : makesIn C.K C.sC = true := by rw [H.hK, H.hs]; kernel_rfl
theorem s_at_a (H : Ok C) : findIn C.K (.ref C.sC) (Str.ofString "a") = some none := by rw [H.hK, H.hs]; kernel_rfl
theorem s_tk_a (H : Ok C) : takerIn C.K C.sC (Str.ofString "a") = some none := by rw [H.hK, H.hs]; kernel_rfl
theorem s_at_isjunk (H : Ok C) : findIn C.K (.ref C.sC) (Str.ofString "isjunk") = some none := by rw [H.hK, H.hs]; kernel_rfl
theorem s_tk_isjunk (H : Ok C) : takerIn C.K C.sC (Str.ofString "isjunk") = some none := by rw [H.hK, H.hs]; kernel_rfl
theorem s_at_b (H : Ok C) : findIn C.K (.ref C.sC) (Str.ofString "b") = some none := by rw [H.hK, H.hs]; kernel_rfl
theorem s_tk_b (H : Ok C) : takerIn C.K C.sC (Str.ofString "b") = some none := by rw [H.hK, H.hs]; kernel_rfl
theorem s_at_autojunk (H : Ok C) : findIn C.K (.ref C.sC) (Str.ofString "autojunk") = some none := by rw [H.hK, H.hs]; kernel_rfl
theorem s_tk_autojunk (H : Ok C) : takerIn C.K C.sC (Str.ofString "autojunk") = some none := by rw [H.hK, H.hs]; kernel_rfl
theorem s_at_matching_blocks (H : Ok C) : findIn C.K (.ref C.sC) (Str.ofString "matching_blocks") = some none := by rw [H.hK, H.hs]; kernel_rfl
theorem s_tk_matching_blocks (H : Ok C) : takerIn C.K C.sC (Str.ofString "matching_blocks") = some none := by rw [H.hK, H.hs]; kernel_rfl
theorem s_at_opcodes (H : Ok C) : findIn C.K (.ref C.sC) (Str.ofString "opcodes") = some none := by rw [H.hK, H.hs]; kernel_rfl
theorem s_tk_opcodes (H : Ok C) : takerIn C.K C.sC (Str.ofString "opcodes") = some none := by rw [H.hK, H.hs]; kernel_rfl
theorem s_at_fullbcount (H : Ok C) : findIn C.K (.ref C.sC) (Str.ofString "fullbcount") = some none := by rw [H.hK, H.hs]; kernel_rfl
theorem s_tk_fullbcount (H : Ok C) : takerIn C.K C.sC (Str.ofString "fullbcount") = some none := by rw [H.hK, H.hs]; kernel_rfl
theorem s_at_b2j (H : Ok C) : findIn C.K (.ref C.sC) (Str.ofString "b2j") = some none := by rw [H.hK, H.hs]; kernel_rfl
theorem s_tk_b2j (H : Ok C) : takerIn C.K C.sC (Str.ofString "b2j") = some none := by rw [H.hK, H.hs]; kernel_rfl
theorem s_at_bjunk (H : Ok C) : findIn C.K (.ref C.sC) (Str.ofString "bjunk") = some none := by rw [H.hK, H.hs]; kernel_rfl
theorem s_tk_bjunk (H : Ok C) : takerIn C.K C.sC (Str.ofString "bjunk") = some none := by rw [H.hK, H.hs]; kernel_rfl
theorem s_at_bpopular (H : Ok C) : findIn C.K (.ref C.sC) (Str.ofString "bpopular") = some none := by rw [H.hK, H.hs]; kernel_rfl
theorem s_tk_bpopular (H : Ok C) : takerIn C.K C.sC (Str.ofString "bpopular") = some none := by rw [H.hK, H.hs]; kernel_rfl
theorem s_f_init (H : Ok C) : findIn C.K (.ref C.sC) (Str.ofString "__init__") = some (some (.ref 160)) := by rw [H.hK, H.hs]; kernel_rfl
theorem s_f_set_seqs (H : Ok C) : findIn C.K (.ref C.sC) (Str.ofString "set_seqs") = some (some (.ref 167)) := by rw [H.hK, H.hs]; kernel_rfl
theorem s_f_set_seq1 (H : Ok C) : findIn C.K (.ref C.sC) (Str.ofString "set_seq1") = some (some (.ref 174)) := by rw [H.hK, H.hs]; kernel_rfl
theorem s_f_set_seq2 (H : Ok C) : findIn C.K (.ref C.sC) (Str.ofString "set_seq2") = some (some (.ref 181)) := by rw [H.hK, H.hs]; kernel_rfl
theorem s_f_chain_b (H : Ok C) : findIn C.K (.ref C.sC) (Str.ofString "_SequenceMatcher__chain_b") = some (some (.ref 188)) := by rw [H.hK, H.hs]; kernel_rfl
theorem s_f_find_longest_match (H : Ok C) : findIn C.K (.ref C.sC) (Str.ofString "find_longest_match") = some (some (.ref 196)) := by rw [H.hK, H.hs]; kernel_rfl
theorem n_Match (H : Ok C) : nsIn C.K mainGlobals (Str.ofString "Match") = some (some (.ref 135)) := by rw [H.hK]; kernel_rfl
theorem n_SequenceMatcher (H : Ok C) : nsIn C.K mainGlobals (Str.ofString "SequenceMatcher") = some (some (.ref 242)) := by rw [H.hK]; kernel_rfl
theorem n__law_named (H : Ok C) : nsIn C.K mainGlobals (Str.ofString "_law_named") = some (some (.ref 254)) := by rw [H.hK]; kernel_rfl
theorem n__law_second (H : Ok C) : nsIn C.K mainGlobals (Str.ofString "_law_second") = some (some (.ref 259)) := by rw [H.hK]; kernel_rfl
theorem n__law_heart (H : Ok C) : nsIn C.K mainGlobals (Str.ofString "_law_heart") = some (some (.ref 266)) := by rw [H.hK]; kernel_rfl
theorem n__law_grown (H : Ok C) : nsIn C.K mainGlobals (Str.ofString "_law_grown") = some (some (.ref 273)) := by rw [H.hK]; kernel_rfl
theorem n__law_plain (H : Ok C) : nsIn C.K mainGlobals (Str.ofString "_law_plain") = some (some (.ref 280)) := by rw [H.hK]; kernel_rfl
theorem n_range (H : Ok C) : nsIn C.K mainGlobals (Str.ofString "range") = some none := by rw [H.hK]; kernel_rfl
theorem n_len (H : Ok C) : nsIn C.K mainGlobals (Str.ofString "len") = some none := by rw [H.hK]; kernel_rfl
theorem n_list (H : Ok C) : nsIn C.K mainGlobals (Str.ofString "list") = some none := by rw [H.hK]; kernel_rfl
theorem n_set (H : Ok C) : nsIn C.K mainGlobals (Str.ofString "set") = some none := by rw [H.hK]; kernel_rfl
theorem n_sum (H : Ok C) : nsIn C.K mainGlobals (Str.ofString "sum") = some none := by rw [H.hK]; kernel_rfl
theorem n_sorted (H : Ok C) : nsIn C.K mainGlobals (Str.ofString "sorted") = some none := by rw [H.hK]; kernel_rfl
theorem n_issubclass (H : Ok C) : nsIn C.K mainGlobals (Str.ofString "issubclass") = some none := by rw [H.hK]; kernel_rfl
theorem n_type (H : Ok C) : nsIn C.K mainGlobals (Str.ofString "type") = some none := by rw [H.hK]; kernel_rfl
theorem n_tuple (H : Ok C) : nsIn C.K mainGlobals (Str.ofString "tuple") = some none := by rw [H.hK]; kernel_rfl
theorem n_enumerate (H : Ok C) : nsIn C.K mainGlobals (Str.ofString "enumerate") = some none := by rw [H.hK]; kernel_rfl
theorem kp_Match (H : Ok C) : keepIn C.K (.ref 135) = true := by rw [H.hK]; kernel_rfl
theorem kp_SequenceMatcher (H : Ok C) : keepIn C.K (.ref 242) = true := by rw [H.hK]; kernel_rfl
theorem f_tnew (H : Ok C) : findCls C.K (.type "tuple") (.type "type") (Str.ofString "__new__") = some (.val (.builtin "tuple.__new__")) := by rw [H.hK]; kernel_rfl
theorem f_tgetitem (H : Ok C) : findCls C.K (.type "tuple") (.type "type") (Str.ofString "__getitem__") = some (.val (.builtin "tuple.__getitem__")) := by rw [H.hK]; kernel_rfl
def dsc0 : Nat := 124
def dsc1 : Nat := 127
def dsc2 : Nat := 130
theorem mg_ga (H : Ok C) : findIn C.K (.ref C.mC) "__getattribute__" = some (some (.builtin "tuple.__getattribute__")) := by rw [H.hK, H.hm]; kernel_rfl
theorem mg_hk (H : Ok C) : findIn C.K (.ref C.mC) "__getattr__" = some none := by rw [H.hK, H.hm]; kernel_rfl
theorem mg_at0 (H : Ok C) : findIn C.K (.ref C.mC) (Str.ofString "a") = some (some (.ref dsc0)) := by rw [H.hK, H.hm]; kernel_rfl
theorem mg_sp0 (H : Ok C) : specialIn C.K (.ref dsc0) "__get__" = some (some (.ref 43)) := by rw [H.hK]; kernel_rfl
theorem mg_tk0 (H : Ok C) : takesIn C.K (.ref dsc0) = some true := by rw [H.hK]; kernel_rfl
theorem mg_at1 (H : Ok C) : findIn C.K (.ref C.mC) (Str.ofString "b") = some (some (.ref dsc1)) := by rw [H.hK, H.hm]; kernel_rfl
theorem mg_sp1 (H : Ok C) : specialIn C.K (.ref dsc1) "__get__" = some (some (.ref 43)) := by rw [H.hK]; kernel_rfl
theorem mg_tk1 (H : Ok C) : takesIn C.K (.ref dsc1) = some true := by rw [H.hK]; kernel_rfl
theorem mg_at2 (H : Ok C) : findIn C.K (.ref C.mC) (Str.ofString "size") = some (some (.ref dsc2)) := by rw [H.hK, H.hm]; kernel_rfl
theorem mg_sp2 (H : Ok C) : specialIn C.K (.ref dsc2) "__get__" = some (some (.ref 43)) := by rw [H.hK]; kernel_rfl
theorem mg_tk2 (H : Ok C) : takesIn C.K (.ref dsc2) = some true := by rw [H.hK]; kernel_rfl
end
end Mine

open PySem PySem.W PyProof.Rows
set_option Elab.async false
set_option maxRecDepth 100000
set_option maxHeartbeats 1000000
set_option linter.unusedVariables false
namespace Mine
section
variable {C : Cx}
theorem mk_cls (H : Ok C) : ∃ oc od cd sl, C.K.lookup C.mC = some ⟨oc, od, .cls cd, sl⟩ ∧ cd.mro = [.ref C.mC, .type "tuple", .type "object"] ∧ cd.bases = [.type "tuple"] ∧ cd.abstract = false ∧ cd.hasDel = false ∧ sl[4]? = some (some .none) := by
  rw [H.hK, H.hm]
  have h : (match (KF C.w.params).lookup 135 with | some ⟨_, _, .cls cd, sl⟩ => cd.mro == [.ref 135, .type "tuple", .type "object"] && cd.bases == [.type "tuple"] && !cd.abstract && !cd.hasDel && sl[4]? == some (some Value.none) | _ => false) = true := by kernel_rfl
  split at h
  · rename_i oc od cd sl e
    simp only [Bool.and_eq_true, beq_iff_eq, Bool.not_eq_true'] at h
    obtain ⟨⟨⟨⟨h1, h2⟩, h3⟩, h4⟩, h5⟩ := h
    exact ⟨oc, od, cd, sl, e, h1, h2, h3, h4, h5⟩
  · cases h
theorem mroOf_tuple' : mroOf (.type "tuple") = pure [.type "tuple", .type "object"] := by rw [mroOf_type]; kernel_rfl
theorem solid_tuple : Builtin.Slots.solid (.type "tuple") = pure (.type "tuple") := by
  unfold Builtin.Slots.solid
  rw [mroOf_tuple']
  kernel_rfl
theorem best_tuple : Builtin.Slots.bestBase [.type "tuple"] = pure (.type "tuple") := by
  unfold Builtin.Slots.bestBase
  simp only [List.forIn_cons, List.forIn_nil, solid_tuple, pure_bind]
theorem made_tuple : Bind.madeBy (.type "tuple") = pure (some "tuple.__new__") := PySem.F.called_tuple.made
theorem mk (H : Ok C) : MatchOK C 82 := by
  obtain ⟨oc, od, cd, sl, hl, hmro, hbs, hab, hdl, hsl⟩ := mk_cls H
  have X := C.X
  have hc : clsIn C.K C.mC = some cd := by unfold clsIn; rw [hl]
  have Lm : Looks (model C.prog C.w) C.h₀ (mroOf (.ref C.mC)) [.ref C.mC, .type "tuple", .type "object"] := hmro ▸ (looks_clsIn X hc).andThen .now
  have made : Looks (model C.prog C.w) C.h₀ (Bind.madeBy (.ref C.mC)) none := by
    intro A Q E s k q
    unfold Bind.madeBy
    refine wpAny_bind (Lm A _ E s k ?_)
    rw [List.forIn_cons]
    refine wpAny_bind (wpAny_bind (wpAny_bind (wpAny_bind (wpAny_loadPart (k _ _ (X _ _ hl)) (wpAny_pure ?_)))))
    dsimp only
    rw [hsl]
    exact wpAny_pure (wpAny_pure (wpAny_pure q))
  exact {
    obj := ⟨oc, od, cd, sl, X _ _ hl, hab, hdl, by rw [hmro]; rfl⟩
    mro := ⟨cd, hmro ▸ Lm, by rw [hmro]; rfl⟩
    made := made
    base := by
      intro A Q E s k q
      unfold Bind.staticBase
      refine wpAny_bind (Lm A _ E s k ?_)
      rw [List.forIn_cons]
      refine wpAny_bind (wpAny_bind (wpAny_bind (made A _ E s k ?_)))
      have Lc := looks_clsIn (M := model C.prog C.w) X hc
      simp only [Option.isSome_none, Bool.false_eq_true, if_false]
      refine wpAny_bind (Lc A _ E s k ?_)
      rw [hbs, best_tuple]
      refine wpAny_bind (wpAny_pure (wpAny_pure ?_))
      dsimp only
      rw [List.forIn_cons]
      refine wpAny_bind ?_
      rw [made_tuple]
      refine wpAny_bind (wpAny_pure ?_)
      simp only [Option.isSome_some, if_true]
      exact wpAny_pure (wpAny_pure (wpAny_pure q))
    baseM := Looks.of_pure made_tuple
    isT := by
      intro A Q E s k q
      have h0 := X _ _ hl
      refine (show Looks (model C.prog C.w) C.h₀ (isType (.ref C.mC)) true from ?_) A Q E s k q
      exact (Looks.ld h0).andThen .now
    self := looks_mroIn X (by unfold mroIn; rw [hc, Option.bind_some, hmro]; simp)
    subT := looks_mroIn X (by unfold mroIn; rw [hc, Option.bind_some, hmro]; simp)
    subO := looks_mroIn X (by unfold mroIn; rw [hc, Option.bind_some, hmro]; simp)
    call := looks_specialIn X (by rw [H.hK, H.hm]; kernel_rfl)
    typ := looks_instIn X (by rw [H.hK, H.hm]; kernel_rfl)
    init := looks_findIn X (by rw [H.hK, H.hm]; kernel_rfl)
    new := by
      intro A Q E s k q
      have X' : C.K.In s.heap := fun a o e => k _ _ (X a o e)
      have hr : readsIn C.K C.mC (.type "type") = true := by rw [H.hK, H.hm]; kernel_rfl
      have he : findCls C.K (.ref C.mC) (.type "type") (Str.ofString "__new__") = some (.get (.builtin "staticmethod.__get__") (.ref 136) .none (.ref C.mC)) := by rw [H.hK, H.hm]; kernel_rfl
      have hp : recIn C.K 136 "staticmethod" = some (.ref 82 :: ((recIn C.K 136 "staticmethod").getD []).tail) := by rw [H.hK]; kernel_rfl
      exact cls_bind X' hr he (wpAny_call (sm_get (s := { s with toks := s.toks + 1 }) X' hp (handed_on rfl q))) }
def chkS (K : Frag) (name : Str) (x : Nat) (i : Int) : Bool := match K.lookup x with
  | some ⟨.ref gC, some dd, .plain, sl⟩ => (match K.lookup dd with
    | some ⟨.type "dict", none, .dict es n, sl'⟩ => sl'.size == 0 && plainGet K gC name && hasDictIn K gC && (match findIn K (.ref gC) name with | some attr => noGet K attr | none => false) && (match getL name es.toList with | some (some (.int j _)) => j == i | _ => false)
    | _ => false)
  | _ => false
theorem sattr_of {K : Frag} {name : Str} {x : Nat} {i : Int} (h : chkS K name x i = true) : ∃ t, SAttr K name (.ref x) (.int i t) := by
  unfold chkS at h
  split at h
  · rename_i gC dd sl e
    split at h
    · rename_i es n sl' e'
      simp only [Bool.and_eq_true, beq_iff_eq] at h
      obtain ⟨⟨⟨⟨h1, h2⟩, h3⟩, h4⟩, h5⟩ := h
      split at h4
      · rename_i attr ea
        split at h5
        · rename_i j t el
          obtain rfl : j = i := by simpa using h5
          have hsl : sl' = #[] := Array.eq_empty_of_size_eq_zero h1
          subst hsl
          exact ⟨t, ⟨x, _, gC, dd, es.toList, n, attr, rfl, e, rfl, rfl, rfl, e', h2, h3, ea, h4, el, rfl⟩⟩
        · cases h5
      · cases h4
    · cases h
  · cases h
def idxF : Value → Option Int
  | .ref n => if n = 124 then some 0 else if n = 127 then some 1 else if n = 130 then some 2 else none
  | _ => none
theorem sattr_idx (H : Ok C) : ∀ v i, idxF v = some i → ∃ t, SAttr C.K (Str.ofString "index") v (.int i t) := by
  intro v i h
  unfold idxF at h
  split at h
  · split at h
    · rename_i e; cases h; subst e; exact sattr_of (by rw [H.hK]; kernel_rfl)
    · split at h
      · rename_i e; cases h; subst e; exact sattr_of (by rw [H.hK]; kernel_rfl)
      · split at h
        · rename_i e; cases h; subst e; exact sattr_of (by rw [H.hK]; kernel_rfl)
        · cases h
  · cases h
end
end Mine

open PySem PySem.W PyProof.Rows
set_option Elab.async false
set_option maxRecDepth 100000
set_option maxHeartbeats 1000000
set_option linter.unusedVariables false
namespace Mine
section
variable {C : Cx}
theorem lk_get (H : Ok C) : C.K.lookup 43 = some ⟨.type "function", none, .func (fnOf (Str.ofString "__get__") (Str.ofString "_tuplegetter.__get__") (fParams (stAt (cBody (stAt body0 2)) 1)) (fBody (stAt (cBody (stAt body0 2)) 1)) (fScope (stAt (cBody (stAt body0 2)) 1)) (.ref 36) .none (docAt C.K 43) (pmAt C.K 43) none (.ref 42) .none), #[]⟩ := by rw [H.hK]; kernel_rfl
theorem kp_get (H : Ok C) : keepIn C.K (.ref 43) = true := by rw [H.hK]; kernel_rfl
theorem fn_get (H : Ok C) : isFn C.K (.ref 43) = true := by rw [H.hK]; kernel_rfl
noncomputable abbrev e_get (L : Nat) : Env := envOf (Str.ofString "_tuplegetter.__get__") (fScope (stAt (cBody (stAt body0 2)) 1)) L 43 (.ref 42)
noncomputable abbrev m_get (C : Cx) : M Fl := do let f ← (do let b ← (do let a ← (ldM 1); let b ← (pure .none); isM a b); if b then (do let f ← (do let a ← (ldM 0); pure (.ret a)); thenM f (pure .next)) else (pure .next)); thenM f (do let f ← (do let b ← (do let b ← (do let a ← (do let l ← (do let a ← (do let l ← (do let a ← (ldM 1); let l ← (pure []); pure (a :: l)); (typM C) l); let l ← (do let a ← (pure (.st (.type "tuple"))); let l ← (pure []); pure (a :: l)); pure (a :: l)); (subM' C) l); truthM C a); pure (!b)); if b then (do let f ← neverM; thenM f (pure .next)) else (pure .next)); thenM f (do let f ← (do let a ← (do let l ← (do let a ← (ldM 1); let l ← (do let a ← (do let a ← (ldM 0); sattrM idxF a); let l ← (pure []); pure (a :: l)); pure (a :: l)); tgetM l); pure (.ret a)); thenM f (pure .next)))
theorem d_get (H : Ok C) (L : Nat) : DS C 0 (e_get L) (execs (fBody (stAt (cBody (stAt body0 2)) 1)) (e_get L)) (m_get C) :=
  (ds_cons (ds_if (den_cmpB (den_local 1 rfl rfl) den_none do_is rfl) (ds_cons (ds_return (den_local 0 rfl rfl)) ds_nil) ds_nil) (ds_cons (ds_if (den_not (den_truth (den_call (den_blt (.builtin "issubclass") (n_issubclass H) (by kernel_rfl) (by decide) rfl rfl) (den_items_cons (den_call (den_blt (.type "type") (n_type H) (by kernel_rfl) (by decide) rfl rfl) (den_items_cons (den_local 1 rfl rfl) den_items_nil rfl) dc_type (.inl rfl) rfl) (den_items_cons (den_blt (.type "tuple") (n_tuple H) (by kernel_rfl) (by decide) rfl rfl) den_items_nil rfl) rfl) (dc_issub (mk H)) (.inl rfl) rfl) do_truth rfl)) (ds_cons ds_never ds_nil) ds_nil) (ds_cons (ds_return (den_tymeth (den_blt (.type "tuple") (n_tuple H) (by kernel_rfl) (by decide) rfl rfl) (den_items_cons (den_local 1 rfl rfl) (den_items_cons (den_sattr (den_local 0 rfl rfl) rfl (sattr_idx H)) den_items_nil rfl) rfl) (dc_tget (mk H)) (by kernel_rfl) (by decide) (f_tgetitem H) rfl rfl _ rfl)) ds_nil)))
def bf0_get (l : List AV) : Option (List (Option AV)) := if l.length = 3 then some ((l ++ ([] : List AV)).map some ++ List.replicate 0 none) else none
theorem bd0_get (H : Ok C) (doc pm : Value) : Binds C (fnOf (Str.ofString "__get__") (Str.ofString "_tuplegetter.__get__") (fParams (stAt (cBody (stAt body0 2)) 1)) (fBody (stAt (cBody (stAt body0 2)) 1)) (fScope (stAt (cBody (stAt body0 2)) 1)) (.ref 36) .none doc pm none (.ref 42) .none) (fScope (stAt (cBody (stAt body0 2)) 1)) bf0_get :=
  binds_dflt (ns := [Str.ofString "self", Str.ofString "obj", Str.ofString "objtype"]) 0 3 [] [] (fun h ρ => by repeat (first | exact .nil | refine .cons (by constructor) ?_)) rfl (fun i x h => by
    match i, h with
    | 0, h => cases h; rfl
    | 1, h => cases h; rfl
    | 2, h => cases h; rfl
    | i + 3, h => simp at h) (by decide) (by decide) (fun vs hv s X => by
    match vs, hv with
    | [v0, v1, v2], _ => exact kp_binds X (by intro S; rw [H.hK]; kernel_rfl))
def bf_get := bf0_get
theorem bd_get (H : Ok C) (doc pm : Value) : Binds C (fnOf (Str.ofString "__get__") (Str.ofString "_tuplegetter.__get__") (fParams (stAt (cBody (stAt body0 2)) 1)) (fBody (stAt (cBody (stAt body0 2)) 1)) (fScope (stAt (cBody (stAt body0 2)) 1)) (.ref 36) .none doc pm none (.ref 42) .none) (fScope (stAt (cBody (stAt body0 2)) 1)) bf_get := bd0_get H doc pm
noncomputable def g_get (C : Cx) : List AV → M AV := fnM bf_get (m_get C)
theorem c_get (H : Ok C) {env : Env} : DCode C 1 env (.ref 43) (g_get C) :=
  dcode_fn (lk_get H) (by rw [H.hK]; kernel_rfl) (bd_get H _ _) (fun L => d_get H L) rfl (by decide) (by decide) rfl rfl
theorem lk_new (H : Ok C) : C.K.lookup 82 = some ⟨.type "function", none, .func (fnOf (Str.ofString "__new__") (Str.ofString "Match.__new__") (fParams (stAt (cBody (stAt body0 3)) 4)) (fBody (stAt (cBody (stAt body0 3)) 4)) (fScope (stAt (cBody (stAt body0 3)) 4)) .none .none (docAt C.K 82) (pmAt C.K 82) none (.ref 81) .none), #[]⟩ := by rw [H.hK]; kernel_rfl
theorem kp_new (H : Ok C) : keepIn C.K (.ref 82) = true := by rw [H.hK]; kernel_rfl
theorem fn_new (H : Ok C) : isFn C.K (.ref 82) = true := by rw [H.hK]; kernel_rfl
noncomputable abbrev e_new (L : Nat) : Env := envOf (Str.ofString "Match.__new__") (fScope (stAt (cBody (stAt body0 3)) 4)) L 82 (.ref 81)
noncomputable abbrev m_new (C : Cx) : M Fl := do let f ← (pure .next); thenM f (do let f ← (do let a ← (do let l ← (do let a ← (ldM 0); let l ← (do let a ← (do let l ← (do let a ← (ldM 1); let l ← (do let a ← (ldM 2); let l ← (do let a ← (ldM 3); let l ← (pure []); pure (a :: l)); pure (a :: l)); pure (a :: l)); tupM l); let l ← (pure []); pure (a :: l)); pure (a :: l)); (tnewM C) l); pure (.ret a)); thenM f (pure .next))
theorem d_new (H : Ok C) (L : Nat) : DS C 0 (e_new L) (execs (fBody (stAt (cBody (stAt body0 3)) 4)) (e_new L)) (m_new C) :=
  (ds_cons (ds_doc rfl rfl) (ds_cons (ds_return (den_tymeth (den_blt (.type "tuple") (n_tuple H) (by kernel_rfl) (by decide) rfl rfl) (den_items_cons (den_local 0 rfl rfl) (den_items_cons (den_tuple (den_items_cons (den_local 1 rfl rfl) (den_items_cons (den_local 2 rfl rfl) (den_items_cons (den_local 3 rfl rfl) den_items_nil rfl) rfl) rfl)) den_items_nil rfl) rfl) (dc_tnew (mk H)) (by kernel_rfl) (by decide) (f_tnew H) rfl rfl _ rfl)) ds_nil))
def bf_new (l : List AV) : Option (List (Option AV)) := if l.length = 4 then some (l.map some ++ List.replicate 0 none) else none
theorem bd_new (H : Ok C) (doc pm : Value) : Binds C (fnOf (Str.ofString "__new__") (Str.ofString "Match.__new__") (fParams (stAt (cBody (stAt body0 3)) 4)) (fBody (stAt (cBody (stAt body0 3)) 4)) (fScope (stAt (cBody (stAt body0 3)) 4)) .none .none doc pm none (.ref 81) .none) (fScope (stAt (cBody (stAt body0 3)) 4)) bf_new :=
  binds_plain (ns := [Str.ofString "_cls", Str.ofString "a", Str.ofString "b", Str.ofString "size"]) 0 (fun i x h => by
    match i, h with
    | 0, h => cases h; rfl
    | 1, h => cases h; rfl
    | 2, h => cases h; rfl
    | 3, h => cases h; rfl
    | i + 4, h => simp at h) (by decide) (by decide) (fun vs hv s X => by
    match vs, hv with
    | [v0, v1, v2, v3], _ => exact BindsTo.of_eq rfl)
noncomputable def g_new (C : Cx) : List AV → M AV := fnM bf_new (m_new C)
theorem c_new (H : Ok C) {env : Env} : DCode C 1 env (.ref 82) (g_new C) :=
  dcode_fn (lk_new H) (by rw [H.hK]; kernel_rfl) (bd_new H _ _) (fun L => d_new H L) rfl (by decide) (by decide) rfl rfl
noncomputable def g_Match (C : Cx) : List AV → M AV := matM (g_new C) (.st (.ref 135))
theorem c_Match (H : Ok C) {env : Env} : DCode C 2 env (.ref 135) (g_Match C) := by
  have h := dcode_match (mk H) (c_new H (env := env))
  rw [H.hm] at h; exact h
theorem lk__law_named (H : Ok C) : C.K.lookup 254 = some ⟨.type "function", none, .func (fnOf (Str.ofString "_law_named") (Str.ofString "_law_named") (fParams (stAt body0 8)) (fBody (stAt body0 8)) (fScope (stAt body0 8)) .none .none (docAt C.K 254) (pmAt C.K 254) none (.ref 253) .none), #[]⟩ := by rw [H.hK]; kernel_rfl
theorem kp__law_named (H : Ok C) : keepIn C.K (.ref 254) = true := by rw [H.hK]; kernel_rfl
theorem fn__law_named (H : Ok C) : isFn C.K (.ref 254) = true := by rw [H.hK]; kernel_rfl
noncomputable abbrev e__law_named (L : Nat) : Env := envOf (Str.ofString "_law_named") (fScope (stAt body0 8)) L 254 (.ref 253)
noncomputable abbrev m__law_named (C : Cx) : M Fl := do let f ← (do let a ← (do let a ← (ldM 0); let b ← (pure (.tup (noise.map .int))); let c ← inM a b; pure (.bool c)); pure (.ret a)); thenM f (pure .next)
theorem d__law_named (H : Ok C) (L : Nat) : DS C 0 (e__law_named L) (execs (fBody (stAt body0 8)) (e__law_named L)) (m__law_named C) :=
  (ds_cons (ds_return (den_cmpV (den_local 0 rfl rfl) (den_globT (n__law_NOISE H) (t__law_NOISE H) i__law_NOISE rfl rfl) do_in rfl)) ds_nil)
def bf__law_named (l : List AV) : Option (List (Option AV)) := if l.length = 1 then some (l.map some ++ List.replicate 0 none) else none
theorem bd__law_named (H : Ok C) (doc pm : Value) : Binds C (fnOf (Str.ofString "_law_named") (Str.ofString "_law_named") (fParams (stAt body0 8)) (fBody (stAt body0 8)) (fScope (stAt body0 8)) .none .none doc pm none (.ref 253) .none) (fScope (stAt body0 8)) bf__law_named :=
  binds_plain (ns := [Str.ofString "item"]) 0 (fun i x h => by
    match i, h with
    | 0, h => cases h; rfl
    | i + 1, h => simp at h) (by decide) (by decide) (fun vs hv s X => by
    match vs, hv with
    | [v0], _ => exact BindsTo.of_eq rfl)
noncomputable def g__law_named (C : Cx) : List AV → M AV := fnM bf__law_named (m__law_named C)
theorem c__law_named (H : Ok C) {env : Env} : DCode C 1 env (.ref 254) (g__law_named C) :=
  dcode_fn (lk__law_named H) (by rw [H.hK]; kernel_rfl) (bd__law_named H _ _) (fun L => d__law_named H L) rfl (by decide) (by decide) rfl rfl
noncomputable def FJ (C : Cx) : Value → Option (List AV → M AV)
  | .ref n => if n = 254 then some (g__law_named C) else none
  | _ => none
theorem FJ_ok (H : Ok C) {env : Env} : ∀ v g, FJ C v = some g → DC C 1 env (RV C) (fun vs => call v vs) g ∧ keepIn C.K v = true := by
  intro v g h
  unfold FJ at h
  split at h
  · split at h
    · rename_i e; subst e; cases h
      exact ⟨(c__law_named H).dc, kp__law_named H⟩
    · cases h
  · cases h
theorem lk_set_seq1 (H : Ok C) : C.K.lookup 174 = some ⟨.type "function", none, .func (fnOf (Str.ofString "set_seq1") (Str.ofString "SequenceMatcher.set_seq1") (fParams (stAt (cBody clsF) 3)) (fBody (stAt (cBody clsF) 3)) (fScope (stAt (cBody clsF) 3)) .none .none (docAt C.K 174) (pmAt C.K 174) none (.ref 173) .none), #[]⟩ := by rw [H.hK]; kernel_rfl
theorem kp_set_seq1 (H : Ok C) : keepIn C.K (.ref 174) = true := by rw [H.hK]; kernel_rfl
theorem fn_set_seq1 (H : Ok C) : isFn C.K (.ref 174) = true := by rw [H.hK]; kernel_rfl
noncomputable abbrev e_set_seq1 (L : Nat) : Env := envOf (Str.ofString "SequenceMatcher.set_seq1") (fScope (stAt (cBody clsF) 3)) L 174 (.ref 173)
noncomputable abbrev m_set_seq1 (C : Cx) : M Fl := do let f ← (pure .next); thenM f (do let f ← (do let b ← (do let a ← (ldM 1); let b ← (do let a ← (ldM 0); attrM 1 a); isM a b); if b then (do let f ← (pure (.ret .none)); thenM f (pure .next)) else (pure .next)); thenM f (do let f ← (do let a ← (ldM 1); (fun v => do let a ← (ldM 0); setAttrM 1 a v) a; pure .next); thenM f (do let f ← (do let a ← (pure .none); (fun v => do let a ← (ldM 0); setAttrM 4 a v) a; (fun v => do let a ← (ldM 0); setAttrM 5 a v) a; pure .next); thenM f (pure .next))))
theorem d_set_seq1 (H : Ok C) (L : Nat) : DS C 0 (e_set_seq1 L) (execs (fBody (stAt (cBody clsF) 3)) (e_set_seq1 L)) (m_set_seq1 C) :=
  (ds_cons (ds_doc rfl rfl) (ds_cons (ds_if (den_cmpB (den_local 1 rfl rfl) (den_attr 1 (den_local 0 rfl rfl) rfl rfl (s_pg H) (s_hd H) (s_at_a H) rfl) do_is rfl) (ds_cons ds_return_none ds_nil) ds_nil) (ds_cons (ds_assign (den_local 1 rfl rfl) (da_attr 1 (den_local 0 rfl rfl) rfl (s_sa H) (s_po H) (s_tk_a H) (s_hd H) (by decide)) rfl rfl rfl) (ds_cons (ds_assign2 den_none (da_attr 4 (den_local 0 rfl rfl) rfl (s_sa H) (s_po H) (s_tk_matching_blocks H) (s_hd H) (by decide)) (da_attr 5 (den_local 0 rfl rfl) rfl (s_sa H) (s_po H) (s_tk_opcodes H) (s_hd H) (by decide)) rfl rfl rfl) ds_nil))))
def bf_set_seq1 (l : List AV) : Option (List (Option AV)) := if l.length = 2 then some (l.map some ++ List.replicate 0 none) else none
theorem bd_set_seq1 (H : Ok C) (doc pm : Value) : Binds C (fnOf (Str.ofString "set_seq1") (Str.ofString "SequenceMatcher.set_seq1") (fParams (stAt (cBody clsF) 3)) (fBody (stAt (cBody clsF) 3)) (fScope (stAt (cBody clsF) 3)) .none .none doc pm none (.ref 173) .none) (fScope (stAt (cBody clsF) 3)) bf_set_seq1 :=
  binds_plain (ns := [Str.ofString "self", Str.ofString "a"]) 0 (fun i x h => by
    match i, h with
    | 0, h => cases h; rfl
    | 1, h => cases h; rfl
    | i + 2, h => simp at h) (by decide) (by decide) (fun vs hv s X => by
    match vs, hv with
    | [v0, v1], _ => exact BindsTo.of_eq rfl)
noncomputable def g_set_seq1 (C : Cx) : List AV → M AV := fnM bf_set_seq1 (m_set_seq1 C)
theorem c_set_seq1 (H : Ok C) {env : Env} : DCode C 1 env (.ref 174) (g_set_seq1 C) :=
  dcode_fn (lk_set_seq1 H) (by rw [H.hK]; kernel_rfl) (bd_set_seq1 H _ _) (fun L => d_set_seq1 H L) rfl (by decide) (by decide) rfl rfl
theorem lk_chain_b (H : Ok C) : C.K.lookup 188 = some ⟨.type "function", none, .func (fnOf (Str.ofString "__chain_b") (Str.ofString "SequenceMatcher.__chain_b") (fParams (stAt (cBody clsF) 5)) (fBody (stAt (cBody clsF) 5)) (fScope (stAt (cBody clsF) 5)) .none .none (docAt C.K 188) (pmAt C.K 188) none (.ref 187) .none), #[]⟩ := by rw [H.hK]; kernel_rfl
theorem kp_chain_b (H : Ok C) : keepIn C.K (.ref 188) = true := by rw [H.hK]; kernel_rfl
theorem fn_chain_b (H : Ok C) : isFn C.K (.ref 188) = true := by rw [H.hK]; kernel_rfl
noncomputable abbrev e_chain_b (L : Nat) : Env := envOf (Str.ofString "SequenceMatcher.__chain_b") (fScope (stAt (cBody clsF) 5)) L 188 (.ref 187)
noncomputable abbrev m_chain_b_b1 (C : Cx) : M Fl := do let f ← (do let a ← (do let a ← (ldM 2); chkM "dict" a; let l ← (do let a ← (ldM 4); let l ← (do let a ← (do let l ← (pure []); mkListM l); let l ← (pure []); pure (a :: l)); pure (a :: l)); setdefM (a :: l)); (stM 5) a; pure .next); thenM f (do let f ← (do let _ ← (do let a ← (ldM 5); chkM "list" a; let l ← (do let a ← (ldM 3); let l ← (pure []); pure (a :: l)); appendM (a :: l)); pure .next); thenM f (pure .next))
theorem d_chain_b_b1 (H : Ok C) (L : Nat) : DS C 1 (e_chain_b L) (execs (loopBody (stAt (fBody (stAt (cBody clsF) 5)) 2)) (e_chain_b L)) (m_chain_b_b1 C) :=
  (ds_cons (ds_assign (den_meth (den_local 2 rfl rfl) (den_items_cons (den_local 4 rfl rfl) (den_items_cons (den_list den_items_nil) den_items_nil rfl) rfl) dc_setdef PySem.F.plainAttrs_dict PySem.F.slot_dict_setdefault PySem.F.type_dict_setdefault rfl rfl rfl rfl) (da_name 5 rfl) rfl rfl rfl) (ds_cons (ds_expr (den_meth (den_local 5 rfl rfl) (den_items_cons (den_local 3 rfl rfl) den_items_nil rfl) dc_append PySem.F.plainAttrs_list PySem.F.slot_list_append PySem.F.type_list_append rfl rfl rfl rfl) rfl rfl) ds_nil))
noncomputable abbrev m_chain_b_b2 (C : Cx) : M Fl := do let f ← (do let b ← (do let a ← (do let f ← (ldM 7); let l ← (do let a ← (ldM 4); let l ← (pure []); pure (a :: l)); appM (FJ C) f l); truthM C a); if b then (do let f ← (do let _ ← (do let a ← (ldM 6); chkM "set" a; let l ← (do let a ← (ldM 4); let l ← (pure []); pure (a :: l)); saddM (a :: l)); pure .next); thenM f (pure .next)) else (pure .next)); thenM f (pure .next)
theorem d_chain_b_b2 (H : Ok C) (L : Nat) : DS C 1 (e_chain_b L) (execs (loopBody (stAt (ifA (stAt (fBody (stAt (cBody clsF) 5)) 5)) 0)) (e_chain_b L)) (m_chain_b_b2 C) :=
  (ds_cons (ds_if (den_truth (den_callv (F := (FJ C)) (den_local 7 rfl rfl) (den_items_cons (den_local 4 rfl rfl) den_items_nil rfl) (FJ_ok H) rfl) do_truth rfl) (ds_cons (ds_expr (den_meth (den_local 6 rfl rfl) (den_items_cons (den_local 4 rfl rfl) den_items_nil rfl) dc_sadd PySem.F.plainAttrs_set PySem.F.slot_set_add PySem.F.type_set_add rfl rfl rfl rfl) rfl rfl) ds_nil) ds_nil) ds_nil)
noncomputable abbrev m_chain_b_b3 (C : Cx) : M Fl := do let f ← (do let b ← (do let a ← (do let l ← (do let a ← (ldM 11); let l ← (pure []); pure (a :: l)); lenM l); let b ← (ldM 10); gtM a b); if b then (do let f ← (do let _ ← (do let a ← (ldM 8); chkM "set" a; let l ← (do let a ← (ldM 4); let l ← (pure []); pure (a :: l)); saddM (a :: l)); pure .next); thenM f (pure .next)) else (pure .next)); thenM f (pure .next)
theorem d_chain_b_b3 (H : Ok C) (L : Nat) : DS C 1 (e_chain_b L) (execs (loopBody (stAt (ifA (stAt (fBody (stAt (cBody clsF) 5)) 8)) 1)) (e_chain_b L)) (m_chain_b_b3 C) :=
  (ds_cons (ds_if (den_cmpB (den_call (den_blt (.builtin "len") (n_len H) (by kernel_rfl) (by decide) rfl rfl) (den_items_cons (den_local 11 rfl rfl) den_items_nil rfl) dc_len (.inl rfl) rfl) (den_local 10 rfl rfl) do_gt rfl) (ds_cons (ds_expr (den_meth (den_local 8 rfl rfl) (den_items_cons (den_local 4 rfl rfl) den_items_nil rfl) dc_sadd PySem.F.plainAttrs_set PySem.F.slot_set_add PySem.F.type_set_add rfl rfl rfl rfl) rfl rfl) ds_nil) ds_nil) ds_nil)
noncomputable abbrev m_chain_b (C : Cx) : M Fl := do let f ← (do let a ← (do let a ← (ldM 0); attrM 2 a); (stM 1) a; pure .next); thenM f (do let f ← (do let a ← (allocM (.dict [])); (fun v => do let a ← (ldM 0); setAttrM 7 a v) a; (stM 2) a; pure .next); thenM f (do let f ← (do let g ← (do let l ← (do let a ← (ldM 1); let l ← (pure []); pure (a :: l)); enumM l); forM' fuel g (unpM 2 (asCons (stM 3) (asCons (stM 4) asNil))) (m_chain_b_b1 C)); thenM f (do let f ← (do let a ← (do let l ← (pure []); setM l); (fun v => do let a ← (ldM 0); setAttrM 8 a v) a; (stM 6) a; pure .next); thenM f (do let f ← (do let a ← (do let a ← (ldM 0); attrM 0 a); (stM 7) a; pure .next); thenM f (do let f ← (do let b ← (do let a ← (ldM 7); truthM C a); if b then (do let f ← (do let a ← (ldM 2); lockM a fun l => forM' fuel (.fixed (l.map fun kv => .int kv.1)) (stM 4) (m_chain_b_b2 C)); thenM f (do let f ← (delAllM (ldM 6) 2 4); thenM f (pure .next))) else (pure .next)); thenM f (do let f ← (do let a ← (do let l ← (pure []); setM l); (fun v => do let a ← (ldM 0); setAttrM 9 a v) a; (stM 8) a; pure .next); thenM f (do let f ← (do let a ← (do let l ← (do let a ← (ldM 1); let l ← (pure []); pure (a :: l)); lenM l); (stM 9) a; pure .next); thenM f (do let f ← (do let b ← (do let b ← (do let a ← (do let a ← (ldM 0); attrM 3 a); truthM C a); if b then (do let b ← (do let a ← (ldM 9); let b ← (pure (.int 200)); geM a b); if b then (pure true) else pure false) else pure false); if b then (do let f ← (do let a ← (do let a ← (do let a ← (ldM 9); let b ← (pure (.int 100)); divM a b); let b ← (pure (.int 1)); addM a b); (stM 10) a; pure .next); thenM f (do let f ← (do let a ← (ldM 2); lockM a fun l => forM' fuel (.fixed (l.map fun kv => .tup [.int kv.1, kv.2])) (unpM 2 (asCons (stM 4) (asCons (stM 11) asNil))) (m_chain_b_b3 C)); thenM f (do let f ← (delAllM (ldM 8) 2 4); thenM f (pure .next)))) else (pure .next)); thenM f (pure .next)))))))))
theorem d_chain_b (H : Ok C) (L : Nat) : DS C 1 (e_chain_b L) (execs (fBody (stAt (cBody clsF) 5)) (e_chain_b L)) (m_chain_b C) :=
  (ds_cons (ds_assign (den_attr 2 (den_local 0 rfl rfl) rfl rfl (s_pg H) (s_hd H) (s_at_b H) rfl) (da_name 1 rfl) rfl rfl rfl) (ds_cons (ds_assign2 den_dict0 (da_attr 7 (den_local 0 rfl rfl) rfl (s_sa H) (s_po H) (s_tk_b2j H) (s_hd H) (by decide)) (da_name 2 rfl) rfl rfl rfl) (ds_cons (ds_for_enum (da_tuple (das_cons (da_name 3 rfl) (das_cons (da_name 4 rfl) das_nil)) rfl rfl) (di_enum (den_blt (.type "enumerate") (n_enumerate H) (by kernel_rfl) (by decide) rfl rfl) (den_items_cons (den_local 1 rfl rfl) den_items_nil rfl) rfl) (d_chain_b_b1 H L) enum_is (fun _ => rfl)) (ds_cons (ds_assign2 (den_call (den_blt (.type "set") (n_set H) (by kernel_rfl) (by decide) rfl rfl) den_items_nil dc_set0 (.inl rfl) rfl) (da_attr 8 (den_local 0 rfl rfl) rfl (s_sa H) (s_po H) (s_tk_bjunk H) (s_hd H) (by decide)) (da_name 6 rfl) rfl rfl rfl) (ds_cons (ds_assign (den_attr 0 (den_local 0 rfl rfl) rfl rfl (s_pg H) (s_hd H) (s_at_isjunk H) rfl) (da_name 7 rfl) rfl rfl rfl) (ds_cons (ds_if (den_truth (den_local 7 rfl rfl) do_truth rfl) (ds_cons (ds_for_keys (den_local 2 rfl rfl) (da_name 4 rfl) (d_chain_b_b2 H L) rfl rfl (fun _ => rfl)) (ds_cons (ds_for_del 2 4 rfl rfl (by decide) rfl rfl (den_local 6 rfl rfl) (fun _ => rfl)) ds_nil)) ds_nil) (ds_cons (ds_assign2 (den_call (den_blt (.type "set") (n_set H) (by kernel_rfl) (by decide) rfl rfl) den_items_nil dc_set0 (.inl rfl) rfl) (da_attr 9 (den_local 0 rfl rfl) rfl (s_sa H) (s_po H) (s_tk_bpopular H) (s_hd H) (by decide)) (da_name 8 rfl) rfl rfl rfl) (ds_cons (ds_assign (den_call (den_blt (.builtin "len") (n_len H) (by kernel_rfl) (by decide) rfl rfl) (den_items_cons (den_local 1 rfl rfl) den_items_nil rfl) dc_len (.inl rfl) rfl) (da_name 9 rfl) rfl rfl rfl) (ds_cons (ds_if (den_boolop (den_and_cons (den_truth (den_attr 3 (den_local 0 rfl rfl) rfl rfl (s_pg H) (s_hd H) (s_at_autojunk H) rfl) do_truth rfl) (den_and_cons (den_cmpB (den_local 9 rfl rfl) den_int do_ge rfl) den_and_nil))) (ds_cons (ds_assign (den_binop (den_binop (den_local 9 rfl rfl) den_int do_div) den_int do_add) (da_name 10 rfl) rfl rfl rfl) (ds_cons (ds_for_items (den_local 2 rfl rfl) (da_tuple (das_cons (da_name 4 rfl) (das_cons (da_name 11 rfl) das_nil)) rfl rfl) (d_chain_b_b3 H L) rfl rfl (fun _ => rfl)) (ds_cons (ds_for_del 2 4 rfl rfl (by decide) rfl rfl (den_local 8 rfl rfl) (fun _ => rfl)) ds_nil))) ds_nil) ds_nil)))))))))
def bf_chain_b (l : List AV) : Option (List (Option AV)) := if l.length = 1 then some (l.map some ++ List.replicate 11 none) else none
theorem bd_chain_b (H : Ok C) (doc pm : Value) : Binds C (fnOf (Str.ofString "__chain_b") (Str.ofString "SequenceMatcher.__chain_b") (fParams (stAt (cBody clsF) 5)) (fBody (stAt (cBody clsF) 5)) (fScope (stAt (cBody clsF) 5)) .none .none doc pm none (.ref 187) .none) (fScope (stAt (cBody clsF) 5)) bf_chain_b :=
  binds_plain (ns := [Str.ofString "self"]) 11 (fun i x h => by
    match i, h with
    | 0, h => cases h; rfl
    | i + 1, h => simp at h) (by decide) (by decide) (fun vs hv s X => by
    match vs, hv with
    | [v0], _ => exact BindsTo.of_eq rfl)
noncomputable def g_chain_b (C : Cx) : List AV → M AV := fnM bf_chain_b (m_chain_b C)
theorem c_chain_b (H : Ok C) {env : Env} : DCode C 2 env (.ref 188) (g_chain_b C) :=
  dcode_fn (lk_chain_b H) (by rw [H.hK]; kernel_rfl) (bd_chain_b H _ _) (fun L => d_chain_b H L) rfl (by decide) (by decide) rfl rfl
theorem lk_set_seq2 (H : Ok C) : C.K.lookup 181 = some ⟨.type "function", none, .func (fnOf (Str.ofString "set_seq2") (Str.ofString "SequenceMatcher.set_seq2") (fParams (stAt (cBody clsF) 4)) (fBody (stAt (cBody clsF) 4)) (fScope (stAt (cBody clsF) 4)) .none .none (docAt C.K 181) (pmAt C.K 181) none (.ref 180) .none), #[]⟩ := by rw [H.hK]; kernel_rfl
theorem kp_set_seq2 (H : Ok C) : keepIn C.K (.ref 181) = true := by rw [H.hK]; kernel_rfl
theorem fn_set_seq2 (H : Ok C) : isFn C.K (.ref 181) = true := by rw [H.hK]; kernel_rfl
noncomputable abbrev e_set_seq2 (L : Nat) : Env := envOf (Str.ofString "SequenceMatcher.set_seq2") (fScope (stAt (cBody clsF) 4)) L 181 (.ref 180)
noncomputable abbrev m_set_seq2 (C : Cx) : M Fl := do let f ← (pure .next); thenM f (do let f ← (do let b ← (do let a ← (ldM 1); let b ← (do let a ← (ldM 0); attrM 2 a); isM a b); if b then (do let f ← (pure (.ret .none)); thenM f (pure .next)) else (pure .next)); thenM f (do let f ← (do let a ← (ldM 1); (fun v => do let a ← (ldM 0); setAttrM 2 a v) a; pure .next); thenM f (do let f ← (do let a ← (pure .none); (fun v => do let a ← (ldM 0); setAttrM 4 a v) a; (fun v => do let a ← (ldM 0); setAttrM 5 a v) a; pure .next); thenM f (do let f ← (do let a ← (pure .none); (fun v => do let a ← (ldM 0); setAttrM 6 a v) a; pure .next); thenM f (do let f ← (do let _ ← (do let a ← (ldM 0); instM a; let l ← (pure []); g_chain_b C (a :: l)); pure .next); thenM f (pure .next))))))
theorem d_set_seq2 (H : Ok C) (L : Nat) : DS C 2 (e_set_seq2 L) (execs (fBody (stAt (cBody clsF) 4)) (e_set_seq2 L)) (m_set_seq2 C) :=
  (ds_cons (ds_doc rfl rfl) (ds_cons (ds_if (den_cmpB (den_local 1 rfl rfl) (den_attr 2 (den_local 0 rfl rfl) rfl rfl (s_pg H) (s_hd H) (s_at_b H) rfl) do_is rfl) (ds_cons ds_return_none ds_nil) ds_nil) (ds_cons (ds_assign (den_local 1 rfl rfl) (da_attr 2 (den_local 0 rfl rfl) rfl (s_sa H) (s_po H) (s_tk_b H) (s_hd H) (by decide)) rfl rfl rfl) (ds_cons (ds_assign2 den_none (da_attr 4 (den_local 0 rfl rfl) rfl (s_sa H) (s_po H) (s_tk_matching_blocks H) (s_hd H) (by decide)) (da_attr 5 (den_local 0 rfl rfl) rfl (s_sa H) (s_po H) (s_tk_opcodes H) (s_hd H) (by decide)) rfl rfl rfl) (ds_cons (ds_assign den_none (da_attr 6 (den_local 0 rfl rfl) rfl (s_sa H) (s_po H) (s_tk_fullbcount H) (s_hd H) (by decide)) rfl rfl rfl) (ds_cons (ds_expr (den_minst (den_local 0 rfl rfl) den_items_nil (DCode.dc (DCode.mono (c_chain_b H) (by decide))) (s_pg H) (s_f_chain_b H) (fn_chain_b H) (kp_chain_b H) rfl rfl _ rfl) rfl rfl) ds_nil))))))
def bf_set_seq2 (l : List AV) : Option (List (Option AV)) := if l.length = 2 then some (l.map some ++ List.replicate 0 none) else none
theorem bd_set_seq2 (H : Ok C) (doc pm : Value) : Binds C (fnOf (Str.ofString "set_seq2") (Str.ofString "SequenceMatcher.set_seq2") (fParams (stAt (cBody clsF) 4)) (fBody (stAt (cBody clsF) 4)) (fScope (stAt (cBody clsF) 4)) .none .none doc pm none (.ref 180) .none) (fScope (stAt (cBody clsF) 4)) bf_set_seq2 :=
  binds_plain (ns := [Str.ofString "self", Str.ofString "b"]) 0 (fun i x h => by
    match i, h with
    | 0, h => cases h; rfl
    | 1, h => cases h; rfl
    | i + 2, h => simp at h) (by decide) (by decide) (fun vs hv s X => by
    match vs, hv with
    | [v0, v1], _ => exact BindsTo.of_eq rfl)
noncomputable def g_set_seq2 (C : Cx) : List AV → M AV := fnM bf_set_seq2 (m_set_seq2 C)
theorem c_set_seq2 (H : Ok C) {env : Env} : DCode C 3 env (.ref 181) (g_set_seq2 C) :=
  dcode_fn (lk_set_seq2 H) (by rw [H.hK]; kernel_rfl) (bd_set_seq2 H _ _) (fun L => d_set_seq2 H L) rfl (by decide) (by decide) rfl rfl
theorem lk_set_seqs (H : Ok C) : C.K.lookup 167 = some ⟨.type "function", none, .func (fnOf (Str.ofString "set_seqs") (Str.ofString "SequenceMatcher.set_seqs") (fParams (stAt (cBody clsF) 2)) (fBody (stAt (cBody clsF) 2)) (fScope (stAt (cBody clsF) 2)) .none .none (docAt C.K 167) (pmAt C.K 167) none (.ref 166) .none), #[]⟩ := by rw [H.hK]; kernel_rfl
theorem kp_set_seqs (H : Ok C) : keepIn C.K (.ref 167) = true := by rw [H.hK]; kernel_rfl
theorem fn_set_seqs (H : Ok C) : isFn C.K (.ref 167) = true := by rw [H.hK]; kernel_rfl
noncomputable abbrev e_set_seqs (L : Nat) : Env := envOf (Str.ofString "SequenceMatcher.set_seqs") (fScope (stAt (cBody clsF) 2)) L 167 (.ref 166)
noncomputable abbrev m_set_seqs (C : Cx) : M Fl := do let f ← (pure .next); thenM f (do let f ← (do let _ ← (do let a ← (ldM 0); instM a; let l ← (do let a ← (ldM 1); let l ← (pure []); pure (a :: l)); g_set_seq1 C (a :: l)); pure .next); thenM f (do let f ← (do let _ ← (do let a ← (ldM 0); instM a; let l ← (do let a ← (ldM 2); let l ← (pure []); pure (a :: l)); g_set_seq2 C (a :: l)); pure .next); thenM f (pure .next)))
theorem d_set_seqs (H : Ok C) (L : Nat) : DS C 3 (e_set_seqs L) (execs (fBody (stAt (cBody clsF) 2)) (e_set_seqs L)) (m_set_seqs C) :=
  (ds_cons (ds_doc rfl rfl) (ds_cons (ds_expr (den_minst (den_local 0 rfl rfl) (den_items_cons (den_local 1 rfl rfl) den_items_nil rfl) (DCode.dc (DCode.mono (c_set_seq1 H) (by decide))) (s_pg H) (s_f_set_seq1 H) (fn_set_seq1 H) (kp_set_seq1 H) rfl rfl _ rfl) rfl rfl) (ds_cons (ds_expr (den_minst (den_local 0 rfl rfl) (den_items_cons (den_local 2 rfl rfl) den_items_nil rfl) (DCode.dc (DCode.mono (c_set_seq2 H) (by decide))) (s_pg H) (s_f_set_seq2 H) (fn_set_seq2 H) (kp_set_seq2 H) rfl rfl _ rfl) rfl rfl) ds_nil)))
def bf_set_seqs (l : List AV) : Option (List (Option AV)) := if l.length = 3 then some (l.map some ++ List.replicate 0 none) else none
theorem bd_set_seqs (H : Ok C) (doc pm : Value) : Binds C (fnOf (Str.ofString "set_seqs") (Str.ofString "SequenceMatcher.set_seqs") (fParams (stAt (cBody clsF) 2)) (fBody (stAt (cBody clsF) 2)) (fScope (stAt (cBody clsF) 2)) .none .none doc pm none (.ref 166) .none) (fScope (stAt (cBody clsF) 2)) bf_set_seqs :=
  binds_plain (ns := [Str.ofString "self", Str.ofString "a", Str.ofString "b"]) 0 (fun i x h => by
    match i, h with
    | 0, h => cases h; rfl
    | 1, h => cases h; rfl
    | 2, h => cases h; rfl
    | i + 3, h => simp at h) (by decide) (by decide) (fun vs hv s X => by
    match vs, hv with
    | [v0, v1, v2], _ => exact BindsTo.of_eq rfl)
noncomputable def g_set_seqs (C : Cx) : List AV → M AV := fnM bf_set_seqs (m_set_seqs C)
theorem c_set_seqs (H : Ok C) {env : Env} : DCode C 4 env (.ref 167) (g_set_seqs C) :=
  dcode_fn (lk_set_seqs H) (by rw [H.hK]; kernel_rfl) (bd_set_seqs H _ _) (fun L => d_set_seqs H L) rfl (by decide) (by decide) rfl rfl
theorem lk_init (H : Ok C) : C.K.lookup 160 = some ⟨.type "function", none, .func (fnOf (Str.ofString "__init__") (Str.ofString "SequenceMatcher.__init__") (fParams (stAt (cBody clsF) 1)) (fBody (stAt (cBody clsF) 1)) (fScope (stAt (cBody clsF) 1)) (.ref 153) .none (docAt C.K 160) (pmAt C.K 160) none (.ref 159) .none), #[]⟩ := by rw [H.hK]; kernel_rfl
theorem kp_init (H : Ok C) : keepIn C.K (.ref 160) = true := by rw [H.hK]; kernel_rfl
theorem fn_init (H : Ok C) : isFn C.K (.ref 160) = true := by rw [H.hK]; kernel_rfl
noncomputable abbrev e_init (L : Nat) : Env := envOf (Str.ofString "SequenceMatcher.__init__") (fScope (stAt (cBody clsF) 1)) L 160 (.ref 159)
noncomputable abbrev m_init (C : Cx) : M Fl := do let f ← (pure .next); thenM f (do let f ← (do let a ← (ldM 1); (fun v => do let a ← (ldM 0); setAttrM 0 a v) a; pure .next); thenM f (do let f ← (do let a ← (pure .none); (fun v => do let a ← (ldM 0); setAttrM 1 a v) a; (fun v => do let a ← (ldM 0); setAttrM 2 a v) a; pure .next); thenM f (do let f ← (do let a ← (ldM 4); (fun v => do let a ← (ldM 0); setAttrM 3 a v) a; pure .next); thenM f (do let f ← (do let _ ← (do let a ← (ldM 0); instM a; let l ← (do let a ← (ldM 2); let l ← (do let a ← (ldM 3); let l ← (pure []); pure (a :: l)); pure (a :: l)); g_set_seqs C (a :: l)); pure .next); thenM f (pure .next)))))
theorem d_init (H : Ok C) (L : Nat) : DS C 4 (e_init L) (execs (fBody (stAt (cBody clsF) 1)) (e_init L)) (m_init C) :=
  (ds_cons (ds_doc rfl rfl) (ds_cons (ds_assign (den_local 1 rfl rfl) (da_attr 0 (den_local 0 rfl rfl) rfl (s_sa H) (s_po H) (s_tk_isjunk H) (s_hd H) (by decide)) rfl rfl rfl) (ds_cons (ds_assign2 den_none (da_attr 1 (den_local 0 rfl rfl) rfl (s_sa H) (s_po H) (s_tk_a H) (s_hd H) (by decide)) (da_attr 2 (den_local 0 rfl rfl) rfl (s_sa H) (s_po H) (s_tk_b H) (s_hd H) (by decide)) rfl rfl rfl) (ds_cons (ds_assign (den_local 4 rfl rfl) (da_attr 3 (den_local 0 rfl rfl) rfl (s_sa H) (s_po H) (s_tk_autojunk H) (s_hd H) (by decide)) rfl rfl rfl) (ds_cons (ds_expr (den_minst (den_local 0 rfl rfl) (den_items_cons (den_local 2 rfl rfl) (den_items_cons (den_local 3 rfl rfl) den_items_nil rfl) rfl) (DCode.dc (DCode.mono (c_set_seqs H) (by decide))) (s_pg H) (s_f_set_seqs H) (fn_set_seqs H) (kp_set_seqs H) rfl rfl _ rfl) rfl rfl) ds_nil)))))
def bf0_init (l : List AV) : Option (List (Option AV)) := if l.length = 4 then some ((l ++ ([.bool true] : List AV)).map some ++ List.replicate 0 none) else none
theorem bd0_init (H : Ok C) (doc pm : Value) : Binds C (fnOf (Str.ofString "__init__") (Str.ofString "SequenceMatcher.__init__") (fParams (stAt (cBody clsF) 1)) (fBody (stAt (cBody clsF) 1)) (fScope (stAt (cBody clsF) 1)) (.ref 153) .none doc pm none (.ref 159) .none) (fScope (stAt (cBody clsF) 1)) bf0_init :=
  binds_dflt (ns := [Str.ofString "self", Str.ofString "isjunk", Str.ofString "a", Str.ofString "b", Str.ofString "autojunk"]) 0 4 [.bool true] [.bool true] (fun h ρ => by repeat (first | exact .nil | refine .cons (by constructor) ?_)) rfl (fun i x h => by
    match i, h with
    | 0, h => cases h; rfl
    | 1, h => cases h; rfl
    | 2, h => cases h; rfl
    | 3, h => cases h; rfl
    | 4, h => cases h; rfl
    | i + 5, h => simp at h) (by decide) (by decide) (fun vs hv s X => by
    match vs, hv with
    | [v0, v1, v2, v3], _ => exact kp_binds X (by intro S; rw [H.hK]; kernel_rfl))
def bf1_init (l : List AV) : Option (List (Option AV)) := if l.length = 5 then some ((l ++ ([] : List AV)).map some ++ List.replicate 0 none) else none
theorem bd1_init (H : Ok C) (doc pm : Value) : Binds C (fnOf (Str.ofString "__init__") (Str.ofString "SequenceMatcher.__init__") (fParams (stAt (cBody clsF) 1)) (fBody (stAt (cBody clsF) 1)) (fScope (stAt (cBody clsF) 1)) (.ref 153) .none doc pm none (.ref 159) .none) (fScope (stAt (cBody clsF) 1)) bf1_init :=
  binds_dflt (ns := [Str.ofString "self", Str.ofString "isjunk", Str.ofString "a", Str.ofString "b", Str.ofString "autojunk"]) 0 5 [] [] (fun h ρ => by repeat (first | exact .nil | refine .cons (by constructor) ?_)) rfl (fun i x h => by
    match i, h with
    | 0, h => cases h; rfl
    | 1, h => cases h; rfl
    | 2, h => cases h; rfl
    | 3, h => cases h; rfl
    | 4, h => cases h; rfl
    | i + 5, h => simp at h) (by decide) (by decide) (fun vs hv s X => by
    match vs, hv with
    | [v0, v1, v2, v3, v4], _ => exact kp_binds X (by intro S; rw [H.hK]; kernel_rfl))
def bf_init (l : List AV) : Option (List (Option AV)) := match bf0_init l with | some x => some x | none => bf1_init l
theorem bd_init (H : Ok C) (doc pm : Value) : Binds C (fnOf (Str.ofString "__init__") (Str.ofString "SequenceMatcher.__init__") (fParams (stAt (cBody clsF) 1)) (fBody (stAt (cBody clsF) 1)) (fScope (stAt (cBody clsF) 1)) (.ref 153) .none doc pm none (.ref 159) .none) (fScope (stAt (cBody clsF) 1)) bf_init := binds_or (bd0_init H doc pm) (bd1_init H doc pm)
noncomputable def g_init (C : Cx) : List AV → M AV := fnM bf_init (m_init C)
theorem c_init (H : Ok C) {env : Env} : DCode C 5 env (.ref 160) (g_init C) :=
  dcode_fn (lk_init H) (by rw [H.hK]; kernel_rfl) (bd_init H _ _) (fun L => d_init H L) rfl (by decide) (by decide) rfl rfl
noncomputable def g_SequenceMatcher (C : Cx) : List AV → M AV := newM (g_init C)
theorem c_SequenceMatcher (H : Ok C) {env : Env} : DCode C 6 env (.ref 242) (g_SequenceMatcher C) := by
  have h := dcode_cls (c_init H (env := env)) (s_mk H) (s_f_init H) (fn_init H)
  rw [H.hs] at h; exact h
theorem lk_find_longest_match (H : Ok C) : C.K.lookup 196 = some ⟨.type "function", none, .func (fnOf (Str.ofString "find_longest_match") (Str.ofString "SequenceMatcher.find_longest_match") (fParams (stAt (cBody clsF) 6)) (fBody (stAt (cBody clsF) 6)) (fScope (stAt (cBody clsF) 6)) (.ref 189) .none (docAt C.K 196) (pmAt C.K 196) none (.ref 195) .none), #[]⟩ := by rw [H.hK]; kernel_rfl
theorem kp_find_longest_match (H : Ok C) : keepIn C.K (.ref 196) = true := by rw [H.hK]; kernel_rfl
theorem fn_find_longest_match (H : Ok C) : isFn C.K (.ref 196) = true := by rw [H.hK]; kernel_rfl
noncomputable abbrev e_find_longest_match (L : Nat) : Env := envOf (Str.ofString "SequenceMatcher.find_longest_match") (fScope (stAt (cBody clsF) 6)) L 196 (.ref 195)
noncomputable abbrev m_find_longest_match_b2 (C : Cx) : M Fl := do let f ← (do let b ← (do let a ← (ldM 17); let b ← (ldM 3); ltM a b); if b then (do let f ← (pure .cont); thenM f (pure .next)) else (pure .next)); thenM f (do let f ← (do let b ← (do let a ← (ldM 17); let b ← (ldM 4); geM a b); if b then (do let f ← (pure .brk); thenM f (pure .next)) else (pure .next)); thenM f (do let f ← (do let a ← (do let a ← (do let f ← (ldM 15); let l ← (do let a ← (do let a ← (ldM 17); let b ← (pure (.int 1)); subM a b); let l ← (do let a ← (pure (.int 0)); let l ← (pure []); pure (a :: l)); pure (a :: l)); appM (fun _ => none) f l); let b ← (pure (.int 1)); addM a b); (stM 18) a; (fun v => do let a ← (ldM 16); let b ← (ldM 17); setItemM a b v) a; pure .next); thenM f (do let f ← (do let b ← (do let a ← (ldM 18); let b ← (ldM 11); gtM a b); if b then (do let f ← (do let a ← (do let l ← (do let a ← (do let a ← (do let a ← (ldM 14); let b ← (ldM 18); subM a b); let b ← (pure (.int 1)); addM a b); let l ← (do let a ← (do let a ← (do let a ← (ldM 17); let b ← (ldM 18); subM a b); let b ← (pure (.int 1)); addM a b); let l ← (do let a ← (ldM 18); let l ← (pure []); pure (a :: l)); pure (a :: l)); pure (a :: l)); tupM l); swM 3 (asCons (stM 11) (asCons (stM 10) (asCons (stM 9) asNil))) a; pure .next); thenM f (pure .next)) else (pure .next)); thenM f (pure .next))))
theorem d_find_longest_match_b2 (H : Ok C) (L : Nat) : DS C 2 (e_find_longest_match L) (execs (loopBody (stAt (loopBody (stAt (fBody (stAt (cBody clsF) 6)) 7)) 2)) (e_find_longest_match L)) (m_find_longest_match_b2 C) :=
  (ds_cons (ds_if (den_cmpB (den_local 17 rfl rfl) (den_local 3 rfl rfl) do_lt rfl) (ds_cons ds_continue ds_nil) ds_nil) (ds_cons (ds_if (den_cmpB (den_local 17 rfl rfl) (den_local 4 rfl rfl) do_ge rfl) (ds_cons ds_break ds_nil) ds_nil) (ds_cons (ds_assign2 (den_binop (den_callv (F := (fun _ => none)) (den_local 15 rfl rfl) (den_items_cons (den_binop (den_local 17 rfl rfl) den_int do_sub) (den_items_cons den_int den_items_nil rfl) rfl) (fun _ _ h => nomatch h) rfl) den_int do_add) (da_name 18 rfl) (da_sub (den_local 16 rfl rfl) (den_local 17 rfl rfl)) rfl rfl rfl) (ds_cons (ds_if (den_cmpB (den_local 18 rfl rfl) (den_local 11 rfl rfl) do_gt rfl) (ds_cons (ds_assign_swapped (den_tuple (den_items_cons (den_binop (den_binop (den_local 14 rfl rfl) (den_local 18 rfl rfl) do_sub) den_int do_add) (den_items_cons (den_binop (den_binop (den_local 17 rfl rfl) (den_local 18 rfl rfl) do_sub) den_int do_add) (den_items_cons (den_local 18 rfl rfl) den_items_nil rfl) rfl) rfl)) (das_cons (bind_local 11 rfl) (das_cons (bind_local 10 rfl) (das_cons (bind_local 9 rfl) das_nil))) rfl rfl rfl) ds_nil) ds_nil) ds_nil))))
noncomputable abbrev m_find_longest_match_b1 (C : Cx) : M Fl := do let f ← (do let a ← (do let a ← (ldM 12); bmM "dict" "dict.get" a); (stM 15) a; pure .next); thenM f (do let f ← (do let a ← (allocM (.dict [])); (stM 16) a; pure .next); thenM f (do let f ← (do let a ← (do let a ← (ldM 7); chkM "dict" a; let l ← (do let a ← (do let a ← (ldM 5); let b ← (ldM 14); itemM a b); let l ← (do let a ← (ldM 13); let l ← (pure []); pure (a :: l)); pure (a :: l)); dgetM (a :: l)); let g ← iterM a; forM' fuel g (stM 17) (m_find_longest_match_b2 C)); thenM f (do let f ← (do let a ← (ldM 16); (stM 12) a; pure .next); thenM f (pure .next))))
theorem d_find_longest_match_b1 (H : Ok C) (L : Nat) : DS C 2 (e_find_longest_match L) (execs (loopBody (stAt (fBody (stAt (cBody clsF) 6)) 7)) (e_find_longest_match L)) (m_find_longest_match_b1 C) :=
  (ds_cons (ds_assign (den_bm_get (den_local 12 rfl rfl) rfl) (da_name 15 rfl) rfl rfl rfl) (ds_cons (ds_assign den_dict0 (da_name 16 rfl) rfl rfl rfl) (ds_cons (ds_for_name 17 rfl (den_meth (den_local 7 rfl rfl) (den_items_cons (den_item (den_local 5 rfl rfl) (den_local 14 rfl rfl) (fun _ _ => rfl)) (den_items_cons (den_local 13 rfl rfl) den_items_nil rfl) rfl) dc_dget PySem.F.plainAttrs_dict PySem.F.slot_dict_get PySem.F.type_dict_get rfl rfl rfl rfl) (d_find_longest_match_b2 H L) (fun _ => rfl)) (ds_cons (ds_assign (den_local 16 rfl rfl) (da_name 12 rfl) rfl rfl rfl) ds_nil))))
noncomputable abbrev m_find_longest_match_b3 (C : Cx) : M Fl := do let f ← (do let a ← (do let l ← (do let a ← (do let a ← (ldM 9); let b ← (pure (.int 1)); subM a b); let l ← (do let a ← (do let a ← (ldM 10); let b ← (pure (.int 1)); subM a b); let l ← (do let a ← (do let a ← (ldM 11); let b ← (pure (.int 1)); addM a b); let l ← (pure []); pure (a :: l)); pure (a :: l)); pure (a :: l)); tupM l); swM 3 (asCons (stM 11) (asCons (stM 10) (asCons (stM 9) asNil))) a; pure .next); thenM f (pure .next)
theorem d_find_longest_match_b3 (H : Ok C) (L : Nat) : DS C 2 (e_find_longest_match L) (execs (loopBody (stAt (fBody (stAt (cBody clsF) 6)) 8)) (e_find_longest_match L)) (m_find_longest_match_b3 C) :=
  (ds_cons (ds_assign_swapped (den_tuple (den_items_cons (den_binop (den_local 9 rfl rfl) den_int do_sub) (den_items_cons (den_binop (den_local 10 rfl rfl) den_int do_sub) (den_items_cons (den_binop (den_local 11 rfl rfl) den_int do_add) den_items_nil rfl) rfl) rfl)) (das_cons (bind_local 11 rfl) (das_cons (bind_local 10 rfl) (das_cons (bind_local 9 rfl) das_nil))) rfl rfl rfl) ds_nil)
noncomputable abbrev w_find_longest_match_b3 (C : Cx) : M Bool := do let b ← (do let a ← (ldM 9); let b ← (ldM 1); gtM a b); if b then (do let b ← (do let a ← (ldM 10); let b ← (ldM 3); gtM a b); if b then (do let b ← (do let b ← (do let a ← (do let f ← (ldM 8); let l ← (do let a ← (do let a ← (ldM 6); let b ← (do let a ← (ldM 10); let b ← (pure (.int 1)); subM a b); itemM a b); let l ← (pure []); pure (a :: l)); appM (fun _ => none) f l); truthM C a); pure (!b)); if b then (do let b ← (do let a ← (do let a ← (ldM 5); let b ← (do let a ← (ldM 9); let b ← (pure (.int 1)); subM a b); itemM a b); let b ← (do let a ← (ldM 6); let b ← (do let a ← (ldM 10); let b ← (pure (.int 1)); subM a b); itemM a b); eqIM a b); if b then (pure true) else pure false) else pure false) else pure false) else pure false
noncomputable abbrev m_find_longest_match_b4 (C : Cx) : M Fl := do let f ← (do let a ← ldM 11; let b ← (pure (.int 1)); let c ← iaddM a b; stM 11 c; pure .next); thenM f (pure .next)
theorem d_find_longest_match_b4 (H : Ok C) (L : Nat) : DS C 2 (e_find_longest_match L) (execs (loopBody (stAt (fBody (stAt (cBody clsF) 6)) 9)) (e_find_longest_match L)) (m_find_longest_match_b4 C) :=
  (ds_cons (ds_aug_name 11 rfl den_int do_iadd) ds_nil)
noncomputable abbrev w_find_longest_match_b4 (C : Cx) : M Bool := do let b ← (do let a ← (do let a ← (ldM 9); let b ← (ldM 11); addM a b); let b ← (ldM 2); ltM a b); if b then (do let b ← (do let a ← (do let a ← (ldM 10); let b ← (ldM 11); addM a b); let b ← (ldM 4); ltM a b); if b then (do let b ← (do let b ← (do let a ← (do let f ← (ldM 8); let l ← (do let a ← (do let a ← (ldM 6); let b ← (do let a ← (ldM 10); let b ← (ldM 11); addM a b); itemM a b); let l ← (pure []); pure (a :: l)); appM (fun _ => none) f l); truthM C a); pure (!b)); if b then (do let b ← (do let a ← (do let a ← (ldM 5); let b ← (do let a ← (ldM 9); let b ← (ldM 11); addM a b); itemM a b); let b ← (do let a ← (ldM 6); let b ← (do let a ← (ldM 10); let b ← (ldM 11); addM a b); itemM a b); eqIM a b); if b then (pure true) else pure false) else pure false) else pure false) else pure false
noncomputable abbrev m_find_longest_match_b5 (C : Cx) : M Fl := do let f ← (do let a ← (do let l ← (do let a ← (do let a ← (ldM 9); let b ← (pure (.int 1)); subM a b); let l ← (do let a ← (do let a ← (ldM 10); let b ← (pure (.int 1)); subM a b); let l ← (do let a ← (do let a ← (ldM 11); let b ← (pure (.int 1)); addM a b); let l ← (pure []); pure (a :: l)); pure (a :: l)); pure (a :: l)); tupM l); swM 3 (asCons (stM 11) (asCons (stM 10) (asCons (stM 9) asNil))) a; pure .next); thenM f (pure .next)
theorem d_find_longest_match_b5 (H : Ok C) (L : Nat) : DS C 2 (e_find_longest_match L) (execs (loopBody (stAt (fBody (stAt (cBody clsF) 6)) 10)) (e_find_longest_match L)) (m_find_longest_match_b5 C) :=
  (ds_cons (ds_assign_swapped (den_tuple (den_items_cons (den_binop (den_local 9 rfl rfl) den_int do_sub) (den_items_cons (den_binop (den_local 10 rfl rfl) den_int do_sub) (den_items_cons (den_binop (den_local 11 rfl rfl) den_int do_add) den_items_nil rfl) rfl) rfl)) (das_cons (bind_local 11 rfl) (das_cons (bind_local 10 rfl) (das_cons (bind_local 9 rfl) das_nil))) rfl rfl rfl) ds_nil)
noncomputable abbrev w_find_longest_match_b5 (C : Cx) : M Bool := do let b ← (do let a ← (ldM 9); let b ← (ldM 1); gtM a b); if b then (do let b ← (do let a ← (ldM 10); let b ← (ldM 3); gtM a b); if b then (do let b ← (do let a ← (do let f ← (ldM 8); let l ← (do let a ← (do let a ← (ldM 6); let b ← (do let a ← (ldM 10); let b ← (pure (.int 1)); subM a b); itemM a b); let l ← (pure []); pure (a :: l)); appM (fun _ => none) f l); truthM C a); if b then (do let b ← (do let a ← (do let a ← (ldM 5); let b ← (do let a ← (ldM 9); let b ← (pure (.int 1)); subM a b); itemM a b); let b ← (do let a ← (ldM 6); let b ← (do let a ← (ldM 10); let b ← (pure (.int 1)); subM a b); itemM a b); eqIM a b); if b then (pure true) else pure false) else pure false) else pure false) else pure false
noncomputable abbrev m_find_longest_match_b6 (C : Cx) : M Fl := do let f ← (do let a ← (do let a ← (ldM 11); let b ← (pure (.int 1)); addM a b); (stM 11) a; pure .next); thenM f (pure .next)
theorem d_find_longest_match_b6 (H : Ok C) (L : Nat) : DS C 2 (e_find_longest_match L) (execs (loopBody (stAt (fBody (stAt (cBody clsF) 6)) 11)) (e_find_longest_match L)) (m_find_longest_match_b6 C) :=
  (ds_cons (ds_assign (den_binop (den_local 11 rfl rfl) den_int do_add) (da_name 11 rfl) rfl rfl rfl) ds_nil)
noncomputable abbrev w_find_longest_match_b6 (C : Cx) : M Bool := do let b ← (do let a ← (do let a ← (ldM 9); let b ← (ldM 11); addM a b); let b ← (ldM 2); ltM a b); if b then (do let b ← (do let a ← (do let a ← (ldM 10); let b ← (ldM 11); addM a b); let b ← (ldM 4); ltM a b); if b then (do let b ← (do let a ← (do let f ← (ldM 8); let l ← (do let a ← (do let a ← (ldM 6); let b ← (do let a ← (ldM 10); let b ← (ldM 11); addM a b); itemM a b); let l ← (pure []); pure (a :: l)); appM (fun _ => none) f l); truthM C a); if b then (do let b ← (do let a ← (do let a ← (ldM 5); let b ← (do let a ← (ldM 9); let b ← (ldM 11); addM a b); itemM a b); let b ← (do let a ← (ldM 6); let b ← (do let a ← (ldM 10); let b ← (ldM 11); addM a b); itemM a b); eqIM a b); if b then (pure true) else pure false) else pure false) else pure false) else pure false
noncomputable abbrev m_find_longest_match (C : Cx) : M Fl := do let f ← (pure .next); thenM f (do let f ← (do let a ← (do let l ← (do let a ← (do let a ← (ldM 0); attrM 1 a); let l ← (do let a ← (do let a ← (ldM 0); attrM 2 a); let l ← (do let a ← (do let a ← (ldM 0); attrM 7 a); let l ← (do let a ← (do let a ← (do let a ← (ldM 0); attrM 8 a); bmM "set" "set.__contains__" a); let l ← (pure []); pure (a :: l)); pure (a :: l)); pure (a :: l)); pure (a :: l)); tupM l); (unpM 4 (asCons (stM 5) (asCons (stM 6) (asCons (stM 7) (asCons (stM 8) asNil))))) a; pure .next); thenM f (do let f ← (do let b ← (do let a ← (ldM 2); let b ← (pure .none); isM a b); if b then (do let f ← (do let a ← (do let l ← (do let a ← (ldM 5); let l ← (pure []); pure (a :: l)); lenM l); (stM 2) a; pure .next); thenM f (pure .next)) else (pure .next)); thenM f (do let f ← (do let b ← (do let a ← (ldM 4); let b ← (pure .none); isM a b); if b then (do let f ← (do let a ← (do let l ← (do let a ← (ldM 6); let l ← (pure []); pure (a :: l)); lenM l); (stM 4) a; pure .next); thenM f (pure .next)) else (pure .next)); thenM f (do let f ← (do let a ← (do let l ← (do let a ← (ldM 1); let l ← (do let a ← (ldM 3); let l ← (do let a ← (pure (.int 0)); let l ← (pure []); pure (a :: l)); pure (a :: l)); pure (a :: l)); tupM l); swM 3 (asCons (stM 11) (asCons (stM 10) (asCons (stM 9) asNil))) a; pure .next); thenM f (do let f ← (do let a ← (allocM (.dict [])); (stM 12) a; pure .next); thenM f (do let f ← (do let a ← (do let l ← (pure []); mkListM l); (stM 13) a; pure .next); thenM f (do let f ← (do let a ← (do let l ← (do let a ← (ldM 1); let l ← (do let a ← (ldM 2); let l ← (pure []); pure (a :: l)); pure (a :: l)); rangeM l); let g ← iterM a; forM' fuel g (stM 14) (m_find_longest_match_b1 C)); thenM f (do let f ← (whileM fuel (w_find_longest_match_b3 C) (m_find_longest_match_b3 C)); thenM f (do let f ← (whileM fuel (w_find_longest_match_b4 C) (m_find_longest_match_b4 C)); thenM f (do let f ← (whileM fuel (w_find_longest_match_b5 C) (m_find_longest_match_b5 C)); thenM f (do let f ← (whileM fuel (w_find_longest_match_b6 C) (m_find_longest_match_b6 C)); thenM f (do let f ← (do let a ← (do let l ← (do let a ← (ldM 9); let l ← (do let a ← (ldM 10); let l ← (do let a ← (ldM 11); let l ← (pure []); pure (a :: l)); pure (a :: l)); pure (a :: l)); g_Match C l); pure (.ret a)); thenM f (pure .next)))))))))))))
theorem d_find_longest_match (H : Ok C) (L : Nat) : DS C 2 (e_find_longest_match L) (execs (fBody (stAt (cBody clsF) 6)) (e_find_longest_match L)) (m_find_longest_match C) :=
  (ds_cons (ds_doc rfl rfl) (ds_cons (ds_assign (den_tuple (den_items_cons (den_attr 1 (den_local 0 rfl rfl) rfl rfl (s_pg H) (s_hd H) (s_at_a H) rfl) (den_items_cons (den_attr 2 (den_local 0 rfl rfl) rfl rfl (s_pg H) (s_hd H) (s_at_b H) rfl) (den_items_cons (den_attr 7 (den_local 0 rfl rfl) rfl rfl (s_pg H) (s_hd H) (s_at_b2j H) rfl) (den_items_cons (den_bm_contains (den_attr 8 (den_local 0 rfl rfl) rfl rfl (s_pg H) (s_hd H) (s_at_bjunk H) rfl) rfl) den_items_nil rfl) rfl) rfl) rfl)) (da_tuple (das_cons (da_name 5 rfl) (das_cons (da_name 6 rfl) (das_cons (da_name 7 rfl) (das_cons (da_name 8 rfl) das_nil)))) rfl rfl) rfl rfl rfl) (ds_cons (ds_if (den_cmpB (den_local 2 rfl rfl) den_none do_is rfl) (ds_cons (ds_assign (den_call (den_blt (.builtin "len") (n_len H) (by kernel_rfl) (by decide) rfl rfl) (den_items_cons (den_local 5 rfl rfl) den_items_nil rfl) dc_len (.inl rfl) rfl) (da_name 2 rfl) rfl rfl rfl) ds_nil) ds_nil) (ds_cons (ds_if (den_cmpB (den_local 4 rfl rfl) den_none do_is rfl) (ds_cons (ds_assign (den_call (den_blt (.builtin "len") (n_len H) (by kernel_rfl) (by decide) rfl rfl) (den_items_cons (den_local 6 rfl rfl) den_items_nil rfl) dc_len (.inl rfl) rfl) (da_name 4 rfl) rfl rfl rfl) ds_nil) ds_nil) (ds_cons (ds_assign_swapped (den_tuple (den_items_cons (den_local 1 rfl rfl) (den_items_cons (den_local 3 rfl rfl) (den_items_cons den_int den_items_nil rfl) rfl) rfl)) (das_cons (bind_local 11 rfl) (das_cons (bind_local 10 rfl) (das_cons (bind_local 9 rfl) das_nil))) rfl rfl rfl) (ds_cons (ds_assign den_dict0 (da_name 12 rfl) rfl rfl rfl) (ds_cons (ds_assign (den_list den_items_nil) (da_name 13 rfl) rfl rfl rfl) (ds_cons (ds_for_name 14 rfl (den_call (den_blt (.type "range") (n_range H) (by kernel_rfl) (by decide) rfl rfl) (den_items_cons (den_local 1 rfl rfl) (den_items_cons (den_local 2 rfl rfl) den_items_nil rfl) rfl) dc_range (.inl rfl) rfl) (d_find_longest_match_b1 H L) (fun _ => rfl)) (ds_cons (ds_while fuel (den_boolop (den_and_cons (den_cmpB (den_local 9 rfl rfl) (den_local 1 rfl rfl) do_gt rfl) (den_and_cons (den_cmpB (den_local 10 rfl rfl) (den_local 3 rfl rfl) do_gt rfl) (den_and_cons (den_not (den_truth (den_callv (F := (fun _ => none)) (den_local 8 rfl rfl) (den_items_cons (den_item (den_local 6 rfl rfl) (den_binop (den_local 10 rfl rfl) den_int do_sub) (fun _ _ => rfl)) den_items_nil rfl) (fun _ _ h => nomatch h) rfl) do_truth rfl)) (den_and_cons (den_cmpB (den_item (den_local 5 rfl rfl) (den_binop (den_local 9 rfl rfl) den_int do_sub) (fun _ _ => rfl)) (den_item (den_local 6 rfl rfl) (den_binop (den_local 10 rfl rfl) den_int do_sub) (fun _ _ => rfl)) do_eqI rfl) den_and_nil))))) (d_find_longest_match_b3 H L)) (ds_cons (ds_while fuel (den_boolop (den_and_cons (den_cmpB (den_binop (den_local 9 rfl rfl) (den_local 11 rfl rfl) do_add) (den_local 2 rfl rfl) do_lt rfl) (den_and_cons (den_cmpB (den_binop (den_local 10 rfl rfl) (den_local 11 rfl rfl) do_add) (den_local 4 rfl rfl) do_lt rfl) (den_and_cons (den_not (den_truth (den_callv (F := (fun _ => none)) (den_local 8 rfl rfl) (den_items_cons (den_item (den_local 6 rfl rfl) (den_binop (den_local 10 rfl rfl) (den_local 11 rfl rfl) do_add) (fun _ _ => rfl)) den_items_nil rfl) (fun _ _ h => nomatch h) rfl) do_truth rfl)) (den_and_cons (den_cmpB (den_item (den_local 5 rfl rfl) (den_binop (den_local 9 rfl rfl) (den_local 11 rfl rfl) do_add) (fun _ _ => rfl)) (den_item (den_local 6 rfl rfl) (den_binop (den_local 10 rfl rfl) (den_local 11 rfl rfl) do_add) (fun _ _ => rfl)) do_eqI rfl) den_and_nil))))) (d_find_longest_match_b4 H L)) (ds_cons (ds_while fuel (den_boolop (den_and_cons (den_cmpB (den_local 9 rfl rfl) (den_local 1 rfl rfl) do_gt rfl) (den_and_cons (den_cmpB (den_local 10 rfl rfl) (den_local 3 rfl rfl) do_gt rfl) (den_and_cons (den_truth (den_callv (F := (fun _ => none)) (den_local 8 rfl rfl) (den_items_cons (den_item (den_local 6 rfl rfl) (den_binop (den_local 10 rfl rfl) den_int do_sub) (fun _ _ => rfl)) den_items_nil rfl) (fun _ _ h => nomatch h) rfl) do_truth rfl) (den_and_cons (den_cmpB (den_item (den_local 5 rfl rfl) (den_binop (den_local 9 rfl rfl) den_int do_sub) (fun _ _ => rfl)) (den_item (den_local 6 rfl rfl) (den_binop (den_local 10 rfl rfl) den_int do_sub) (fun _ _ => rfl)) do_eqI rfl) den_and_nil))))) (d_find_longest_match_b5 H L)) (ds_cons (ds_while fuel (den_boolop (den_and_cons (den_cmpB (den_binop (den_local 9 rfl rfl) (den_local 11 rfl rfl) do_add) (den_local 2 rfl rfl) do_lt rfl) (den_and_cons (den_cmpB (den_binop (den_local 10 rfl rfl) (den_local 11 rfl rfl) do_add) (den_local 4 rfl rfl) do_lt rfl) (den_and_cons (den_truth (den_callv (F := (fun _ => none)) (den_local 8 rfl rfl) (den_items_cons (den_item (den_local 6 rfl rfl) (den_binop (den_local 10 rfl rfl) (den_local 11 rfl rfl) do_add) (fun _ _ => rfl)) den_items_nil rfl) (fun _ _ h => nomatch h) rfl) do_truth rfl) (den_and_cons (den_cmpB (den_item (den_local 5 rfl rfl) (den_binop (den_local 9 rfl rfl) (den_local 11 rfl rfl) do_add) (fun _ _ => rfl)) (den_item (den_local 6 rfl rfl) (den_binop (den_local 10 rfl rfl) (den_local 11 rfl rfl) do_add) (fun _ _ => rfl)) do_eqI rfl) den_and_nil))))) (d_find_longest_match_b6 H L)) (ds_cons (ds_return (den_call (den_glob (.ref 135) (n_Match H) rfl rfl) (den_items_cons (den_local 9 rfl rfl) (den_items_cons (den_local 10 rfl rfl) (den_items_cons (den_local 11 rfl rfl) den_items_nil rfl) rfl) rfl) (DCode.dc (DCode.mono (c_Match H) (by decide))) (.inr (kp_Match H)) rfl)) ds_nil)))))))))))))
def bf0_find_longest_match (l : List AV) : Option (List (Option AV)) := if l.length = 1 then some ((l ++ ([.int 0, .none, .int 0, .none] : List AV)).map some ++ List.replicate 14 none) else none
theorem bd0_find_longest_match (H : Ok C) (doc pm : Value) : Binds C (fnOf (Str.ofString "find_longest_match") (Str.ofString "SequenceMatcher.find_longest_match") (fParams (stAt (cBody clsF) 6)) (fBody (stAt (cBody clsF) 6)) (fScope (stAt (cBody clsF) 6)) (.ref 189) .none doc pm none (.ref 195) .none) (fScope (stAt (cBody clsF) 6)) bf0_find_longest_match :=
  binds_dflt (ns := [Str.ofString "self", Str.ofString "alo", Str.ofString "ahi", Str.ofString "blo", Str.ofString "bhi"]) 14 1 [.int 0 464, .none, .int 0 465, .none] [.int 0, .none, .int 0, .none] (fun h ρ => by repeat (first | exact .nil | refine .cons (by constructor) ?_)) rfl (fun i x h => by
    match i, h with
    | 0, h => cases h; rfl
    | 1, h => cases h; rfl
    | 2, h => cases h; rfl
    | 3, h => cases h; rfl
    | 4, h => cases h; rfl
    | i + 5, h => simp at h) (by decide) (by decide) (fun vs hv s X => by
    match vs, hv with
    | [v0], _ => exact kp_binds X (by intro S; rw [H.hK]; kernel_rfl))
def bf1_find_longest_match (l : List AV) : Option (List (Option AV)) := if l.length = 5 then some ((l ++ ([] : List AV)).map some ++ List.replicate 14 none) else none
theorem bd1_find_longest_match (H : Ok C) (doc pm : Value) : Binds C (fnOf (Str.ofString "find_longest_match") (Str.ofString "SequenceMatcher.find_longest_match") (fParams (stAt (cBody clsF) 6)) (fBody (stAt (cBody clsF) 6)) (fScope (stAt (cBody clsF) 6)) (.ref 189) .none doc pm none (.ref 195) .none) (fScope (stAt (cBody clsF) 6)) bf1_find_longest_match :=
  binds_dflt (ns := [Str.ofString "self", Str.ofString "alo", Str.ofString "ahi", Str.ofString "blo", Str.ofString "bhi"]) 14 5 [] [] (fun h ρ => by repeat (first | exact .nil | refine .cons (by constructor) ?_)) rfl (fun i x h => by
    match i, h with
    | 0, h => cases h; rfl
    | 1, h => cases h; rfl
    | 2, h => cases h; rfl
    | 3, h => cases h; rfl
    | 4, h => cases h; rfl
    | i + 5, h => simp at h) (by decide) (by decide) (fun vs hv s X => by
    match vs, hv with
    | [v0, v1, v2, v3, v4], _ => exact kp_binds X (by intro S; rw [H.hK]; kernel_rfl))
def bf_find_longest_match (l : List AV) : Option (List (Option AV)) := match bf0_find_longest_match l with | some x => some x | none => bf1_find_longest_match l
theorem bd_find_longest_match (H : Ok C) (doc pm : Value) : Binds C (fnOf (Str.ofString "find_longest_match") (Str.ofString "SequenceMatcher.find_longest_match") (fParams (stAt (cBody clsF) 6)) (fBody (stAt (cBody clsF) 6)) (fScope (stAt (cBody clsF) 6)) (.ref 189) .none doc pm none (.ref 195) .none) (fScope (stAt (cBody clsF) 6)) bf_find_longest_match := binds_or (bd0_find_longest_match H doc pm) (bd1_find_longest_match H doc pm)
noncomputable def g_find_longest_match (C : Cx) : List AV → M AV := fnM bf_find_longest_match (m_find_longest_match C)
theorem c_find_longest_match (H : Ok C) {env : Env} : DCode C 3 env (.ref 196) (g_find_longest_match C) :=
  dcode_fn (lk_find_longest_match H) (by rw [H.hK]; kernel_rfl) (bd_find_longest_match H _ _) (fun L => d_find_longest_match H L) rfl (by decide) (by decide) rfl rfl
end
end Mine

open PySem PySem.W PyProof.Rows
set_option Elab.async false
set_option maxRecDepth 100000
set_option maxHeartbeats 1000000
set_option linter.unusedVariables false
namespace Mine
section
variable {C : Cx}
theorem lk__law_second (H : Ok C) : C.K.lookup 259 = some ⟨.type "function", none, .func (fnOf (Str.ofString "_law_second") (Str.ofString "_law_second") (fParams (stAt body0 9)) (fBody (stAt body0 9)) (fScope (stAt body0 9)) .none .none (docAt C.K 259) (pmAt C.K 259) none (.ref 258) .none), #[]⟩ := by rw [H.hK]; kernel_rfl
theorem kp__law_second (H : Ok C) : keepIn C.K (.ref 259) = true := by rw [H.hK]; kernel_rfl
theorem fn__law_second (H : Ok C) : isFn C.K (.ref 259) = true := by rw [H.hK]; kernel_rfl
noncomputable abbrev e__law_second (L : Nat) : Env := envOf (Str.ofString "_law_second") (fScope (stAt body0 9)) L 259 (.ref 258)
noncomputable abbrev m__law_second_b1 (C : Cx) : M Fl := do let f ← (do let a ← (pure (.int 3)); (fun v => do let a ← (ldM 2); let b ← (ldM 1); setItemM a b v) a; pure .next); thenM f (pure .next)
theorem d__law_second_b1 (H : Ok C) (L : Nat) : DS C 0 (e__law_second L) (execs (loopBody (stAt (fBody (stAt body0 9)) 1)) (e__law_second L)) (m__law_second_b1 C) :=
  (ds_cons (ds_assign den_int (da_sub (den_local 2 rfl rfl) (den_local 1 rfl rfl)) rfl rfl rfl) ds_nil)
noncomputable abbrev m__law_second_b2 (C : Cx) : M Fl := do let f ← (do let a ← (pure (.int 4)); (fun v => do let a ← (ldM 2); let b ← (ldM 1); setItemM a b v) a; pure .next); thenM f (pure .next)
theorem d__law_second_b2 (H : Ok C) (L : Nat) : DS C 0 (e__law_second L) (execs (loopBody (stAt (fBody (stAt body0 9)) 2)) (e__law_second L)) (m__law_second_b2 C) :=
  (ds_cons (ds_assign den_int (da_sub (den_local 2 rfl rfl) (den_local 1 rfl rfl)) rfl rfl rfl) ds_nil)
noncomputable abbrev m__law_second (C : Cx) : M Fl := do let f ← (do let a ← (compM [none, none] (do let a ← (do let l ← (do let a ← (ldM 0); let l ← (pure []); pure (a :: l)); rangeM l); iterM a) (stM 1) (pure true) (do let b ← (do let a ← (do let a ← (ldM 1); let b ← (pure (.int 5)); modM a b); let b ← (pure (.int 4)); eqIM a b); if b then (do let a ← (pure (.int 1)); let b ← (do let a ← (do let a ← (ldM 1); let b ← (pure (.int 5)); divM a b); let b ← (pure (.int 2)); modM a b); addM a b) else (do let a ← (pure (.int 100)); let b ← (ldM 1); addM a b))); stM 2 a; pure .next); thenM f (do let f ← (do let a ← (do let l ← (do let a ← (pure (.int 20)); let l ← (do let a ← (pure (.int 70)); let l ← (do let a ← (pure (.int 120)); let l ← (do let a ← (pure (.int 170)); let l ← (pure []); pure (a :: l)); pure (a :: l)); pure (a :: l)); pure (a :: l)); tupM l); let g ← iterM a; forM' fuel g (stM 1) (m__law_second_b1 C)); thenM f (do let f ← (do let a ← (do let l ← (do let a ← (pure (.int 31)); let l ← (do let a ← (pure (.int 81)); let l ← (do let a ← (pure (.int 131)); let l ← (pure []); pure (a :: l)); pure (a :: l)); pure (a :: l)); tupM l); let g ← iterM a; forM' fuel g (stM 1) (m__law_second_b2 C)); thenM f (do let f ← (do let a ← (ldM 2); pure (.ret a)); thenM f (pure .next))))
theorem d__law_second (H : Ok C) (L : Nat) : DS C 0 (e__law_second L) (execs (fBody (stAt body0 9)) (e__law_second L)) (m__law_second C) :=
  (ds_cons (ds_assign_comp 2 rfl (caps := [none, none]) (P := fun g => notEnum g = true) (di_of (den_call (den_blt (.type "range") (n_range H) (by kernel_rfl) (by decide) rfl rfl) (den_items_cons (den_local 0 rfl rfl) den_items_nil rfl) dc_range (.inl rfl) rfl)) (fun L => (da_name 1 rfl)) (fun L => dts_nil) (fun L => (den_ifexp (den_cmpB (den_binop (den_local 1 rfl rfl) den_int do_mod) den_int do_eqI rfl) (den_binop den_int (den_binop (den_binop (den_local 1 rfl rfl) den_int do_div) den_int do_mod) do_add) (den_binop den_int (den_local 1 rfl rfl) do_add))) nx_ne lo_name it_ne (fun _ => rfl) (closureFor_none (by decide)) (by decide) rfl (by decide) (by decide) (caps_none rfl) rfl) (ds_cons (ds_for_name 1 rfl (den_tuple (den_items_cons den_int (den_items_cons den_int (den_items_cons den_int (den_items_cons den_int den_items_nil rfl) rfl) rfl) rfl)) (d__law_second_b1 H L) (fun _ => rfl)) (ds_cons (ds_for_name 1 rfl (den_tuple (den_items_cons den_int (den_items_cons den_int (den_items_cons den_int den_items_nil rfl) rfl) rfl)) (d__law_second_b2 H L) (fun _ => rfl)) (ds_cons (ds_return (den_local 2 rfl rfl)) ds_nil))))
def bf__law_second (l : List AV) : Option (List (Option AV)) := if l.length = 1 then some (l.map some ++ List.replicate 2 none) else none
theorem bd__law_second (H : Ok C) (doc pm : Value) : Binds C (fnOf (Str.ofString "_law_second") (Str.ofString "_law_second") (fParams (stAt body0 9)) (fBody (stAt body0 9)) (fScope (stAt body0 9)) .none .none doc pm none (.ref 258) .none) (fScope (stAt body0 9)) bf__law_second :=
  binds_plain (ns := [Str.ofString "n"]) 2 (fun i x h => by
    match i, h with
    | 0, h => cases h; rfl
    | i + 1, h => simp at h) (by decide) (by decide) (fun vs hv s X => by
    match vs, hv with
    | [v0], _ => exact BindsTo.of_eq rfl)
noncomputable def g__law_second (C : Cx) : List AV → M AV := fnM bf__law_second (m__law_second C)
theorem c__law_second (H : Ok C) {env : Env} : DCode C 1 env (.ref 259) (g__law_second C) :=
  dcode_fn (lk__law_second H) (by rw [H.hK]; kernel_rfl) (bd__law_second H _ _) (fun L => d__law_second H L) rfl (by decide) (by decide) rfl rfl
theorem lk__law_heart (H : Ok C) : C.K.lookup 266 = some ⟨.type "function", none, .func (fnOf (Str.ofString "_law_heart") (Str.ofString "_law_heart") (fParams (stAt body0 10)) (fBody (stAt body0 10)) (fScope (stAt body0 10)) .none .none (docAt C.K 266) (pmAt C.K 266) none (.ref 265) .none), #[]⟩ := by rw [H.hK]; kernel_rfl
theorem kp__law_heart (H : Ok C) : keepIn C.K (.ref 266) = true := by rw [H.hK]; kernel_rfl
theorem fn__law_heart (H : Ok C) : isFn C.K (.ref 266) = true := by rw [H.hK]; kernel_rfl
noncomputable abbrev e__law_heart (L : Nat) : Env := envOf (Str.ofString "_law_heart") (fScope (stAt body0 10)) L 266 (.ref 265)
noncomputable abbrev m__law_heart_b3 (C : Cx) : M Fl := do let f ← (do let a ← (do let a ← (ldM 13); let b ← (pure (.int 1)); addM a b); (stM 13) a; pure .next); thenM f (pure .next)
theorem d__law_heart_b3 (H : Ok C) (L : Nat) : DS C 0 (e__law_heart L) (execs (loopBody (stAt (ifA (stAt (loopBody (stAt (loopBody (stAt (fBody (stAt body0 10)) 2)) 0)) 0)) 1)) (e__law_heart L)) (m__law_heart_b3 C) :=
  (ds_cons (ds_assign (den_binop (den_local 13 rfl rfl) den_int do_add) (da_name 13 rfl) rfl rfl rfl) ds_nil)
noncomputable abbrev w__law_heart_b3 (C : Cx) : M Bool := do let b ← (do let a ← (do let a ← (ldM 11); let b ← (ldM 13); addM a b); let b ← (ldM 5); ltM a b); if b then (do let b ← (do let a ← (do let a ← (ldM 12); let b ← (ldM 13); addM a b); let b ← (ldM 7); ltM a b); if b then (do let b ← (do let a ← (do let a ← (ldM 0); let b ← (do let a ← (ldM 11); let b ← (ldM 13); addM a b); itemM a b); let b ← (do let a ← (ldM 1); let b ← (do let a ← (ldM 12); let b ← (ldM 13); addM a b); itemM a b); eqIM a b); if b then (do let b ← (do let a ← (do let a ← (ldM 1); let b ← (do let a ← (ldM 12); let b ← (ldM 13); addM a b); itemM a b); let b ← (ldM 2); inM a b); if b then (pure true) else pure false) else pure false) else pure false) else pure false
noncomputable abbrev m__law_heart_b2 (C : Cx) : M Fl := do let f ← (do let b ← (do let b ← (do let a ← (ldM 12); let b ← (ldM 6); geM a b); if b then (do let b ← (do let a ← (ldM 12); let b ← (ldM 7); ltM a b); if b then (pure true) else pure false) else pure false); if b then (do let f ← (do let a ← (pure (.int 0)); (stM 13) a; pure .next); thenM f (do let f ← (whileM fuel (w__law_heart_b3 C) (m__law_heart_b3 C)); thenM f (do let f ← (do let b ← (do let a ← (ldM 13); let b ← (ldM 10); gtM a b); if b then (do let f ← (do let a ← (do let l ← (do let a ← (ldM 11); let l ← (do let a ← (ldM 12); let l ← (do let a ← (ldM 13); let l ← (pure []); pure (a :: l)); pure (a :: l)); pure (a :: l)); tupM l); swM 3 (asCons (stM 10) (asCons (stM 9) (asCons (stM 8) asNil))) a; pure .next); thenM f (pure .next)) else (pure .next)); thenM f (pure .next)))) else (pure .next)); thenM f (pure .next)
theorem d__law_heart_b2 (H : Ok C) (L : Nat) : DS C 0 (e__law_heart L) (execs (loopBody (stAt (loopBody (stAt (fBody (stAt body0 10)) 2)) 0)) (e__law_heart L)) (m__law_heart_b2 C) :=
  (ds_cons (ds_if (den_boolop (den_and_cons (den_cmpB (den_local 12 rfl rfl) (den_local 6 rfl rfl) do_ge rfl) (den_and_cons (den_cmpB (den_local 12 rfl rfl) (den_local 7 rfl rfl) do_lt rfl) den_and_nil))) (ds_cons (ds_assign den_int (da_name 13 rfl) rfl rfl rfl) (ds_cons (ds_while fuel (den_boolop (den_and_cons (den_cmpB (den_binop (den_local 11 rfl rfl) (den_local 13 rfl rfl) do_add) (den_local 5 rfl rfl) do_lt rfl) (den_and_cons (den_cmpB (den_binop (den_local 12 rfl rfl) (den_local 13 rfl rfl) do_add) (den_local 7 rfl rfl) do_lt rfl) (den_and_cons (den_cmpB (den_item (den_local 0 rfl rfl) (den_binop (den_local 11 rfl rfl) (den_local 13 rfl rfl) do_add) (fun _ _ => rfl)) (den_item (den_local 1 rfl rfl) (den_binop (den_local 12 rfl rfl) (den_local 13 rfl rfl) do_add) (fun _ _ => rfl)) do_eqI rfl) (den_and_cons (den_cmpB (den_item (den_local 1 rfl rfl) (den_binop (den_local 12 rfl rfl) (den_local 13 rfl rfl) do_add) (fun _ _ => rfl)) (den_local 2 rfl rfl) do_in rfl) den_and_nil))))) (d__law_heart_b3 H L)) (ds_cons (ds_if (den_cmpB (den_local 13 rfl rfl) (den_local 10 rfl rfl) do_gt rfl) (ds_cons (ds_assign_swapped (den_tuple (den_items_cons (den_local 11 rfl rfl) (den_items_cons (den_local 12 rfl rfl) (den_items_cons (den_local 13 rfl rfl) den_items_nil rfl) rfl) rfl)) (das_cons (bind_local 10 rfl) (das_cons (bind_local 9 rfl) (das_cons (bind_local 8 rfl) das_nil))) rfl rfl rfl) ds_nil) ds_nil) ds_nil))) ds_nil) ds_nil)
noncomputable abbrev m__law_heart_b1 (C : Cx) : M Fl := do let f ← (do let a ← (do let a ← (ldM 2); chkM "dict" a; let l ← (do let a ← (do let a ← (ldM 0); let b ← (ldM 11); itemM a b); let l ← (do let a ← (do let l ← (pure []); tupM l); let l ← (pure []); pure (a :: l)); pure (a :: l)); dgetM (a :: l)); let g ← iterM a; forM' fuel g (stM 12) (m__law_heart_b2 C)); thenM f (pure .next)
theorem d__law_heart_b1 (H : Ok C) (L : Nat) : DS C 0 (e__law_heart L) (execs (loopBody (stAt (fBody (stAt body0 10)) 2)) (e__law_heart L)) (m__law_heart_b1 C) :=
  (ds_cons (ds_for_name 12 rfl (den_meth (den_local 2 rfl rfl) (den_items_cons (den_item (den_local 0 rfl rfl) (den_local 11 rfl rfl) (fun _ _ => rfl)) (den_items_cons (den_tuple den_items_nil) den_items_nil rfl) rfl) dc_dget PySem.F.plainAttrs_dict PySem.F.slot_dict_get PySem.F.type_dict_get rfl rfl rfl rfl) (d__law_heart_b2 H L) (fun _ => rfl)) ds_nil)
noncomputable abbrev m__law_heart (C : Cx) : M Fl := do let f ← (do let a ← (ldM 3); (unpM 4 (asCons (stM 4) (asCons (stM 5) (asCons (stM 6) (asCons (stM 7) asNil))))) a; pure .next); thenM f (do let f ← (do let a ← (do let l ← (do let a ← (ldM 4); let l ← (do let a ← (ldM 6); let l ← (do let a ← (pure (.int 0)); let l ← (pure []); pure (a :: l)); pure (a :: l)); pure (a :: l)); tupM l); swM 3 (asCons (stM 10) (asCons (stM 9) (asCons (stM 8) asNil))) a; pure .next); thenM f (do let f ← (do let a ← (do let l ← (do let a ← (ldM 4); let l ← (do let a ← (ldM 5); let l ← (pure []); pure (a :: l)); pure (a :: l)); rangeM l); let g ← iterM a; forM' fuel g (stM 11) (m__law_heart_b1 C)); thenM f (do let f ← (do let a ← (do let l ← (do let a ← (ldM 8); let l ← (do let a ← (ldM 9); let l ← (do let a ← (ldM 10); let l ← (pure []); pure (a :: l)); pure (a :: l)); pure (a :: l)); tupM l); pure (.ret a)); thenM f (pure .next))))
theorem d__law_heart (H : Ok C) (L : Nat) : DS C 0 (e__law_heart L) (execs (fBody (stAt body0 10)) (e__law_heart L)) (m__law_heart C) :=
  (ds_cons (ds_assign (den_local 3 rfl rfl) (da_tuple (das_cons (da_name 4 rfl) (das_cons (da_name 5 rfl) (das_cons (da_name 6 rfl) (das_cons (da_name 7 rfl) das_nil)))) rfl rfl) rfl rfl rfl) (ds_cons (ds_assign_swapped (den_tuple (den_items_cons (den_local 4 rfl rfl) (den_items_cons (den_local 6 rfl rfl) (den_items_cons den_int den_items_nil rfl) rfl) rfl)) (das_cons (bind_local 10 rfl) (das_cons (bind_local 9 rfl) (das_cons (bind_local 8 rfl) das_nil))) rfl rfl rfl) (ds_cons (ds_for_name 11 rfl (den_call (den_blt (.type "range") (n_range H) (by kernel_rfl) (by decide) rfl rfl) (den_items_cons (den_local 4 rfl rfl) (den_items_cons (den_local 5 rfl rfl) den_items_nil rfl) rfl) dc_range (.inl rfl) rfl) (d__law_heart_b1 H L) (fun _ => rfl)) (ds_cons (ds_return (den_tuple (den_items_cons (den_local 8 rfl rfl) (den_items_cons (den_local 9 rfl rfl) (den_items_cons (den_local 10 rfl rfl) den_items_nil rfl) rfl) rfl))) ds_nil))))
def bf__law_heart (l : List AV) : Option (List (Option AV)) := if l.length = 4 then some (l.map some ++ List.replicate 10 none) else none
theorem bd__law_heart (H : Ok C) (doc pm : Value) : Binds C (fnOf (Str.ofString "_law_heart") (Str.ofString "_law_heart") (fParams (stAt body0 10)) (fBody (stAt body0 10)) (fScope (stAt body0 10)) .none .none doc pm none (.ref 265) .none) (fScope (stAt body0 10)) bf__law_heart :=
  binds_plain (ns := [Str.ofString "first", Str.ofString "second", Str.ofString "places", Str.ofString "window"]) 10 (fun i x h => by
    match i, h with
    | 0, h => cases h; rfl
    | 1, h => cases h; rfl
    | 2, h => cases h; rfl
    | 3, h => cases h; rfl
    | i + 4, h => simp at h) (by decide) (by decide) (fun vs hv s X => by
    match vs, hv with
    | [v0, v1, v2, v3], _ => exact BindsTo.of_eq rfl)
noncomputable def g__law_heart (C : Cx) : List AV → M AV := fnM bf__law_heart (m__law_heart C)
theorem c__law_heart (H : Ok C) {env : Env} : DCode C 1 env (.ref 266) (g__law_heart C) :=
  dcode_fn (lk__law_heart H) (by rw [H.hK]; kernel_rfl) (bd__law_heart H _ _) (fun L => d__law_heart H L) rfl (by decide) (by decide) rfl rfl
theorem lk__law_grown (H : Ok C) : C.K.lookup 273 = some ⟨.type "function", none, .func (fnOf (Str.ofString "_law_grown") (Str.ofString "_law_grown") (fParams (stAt body0 11)) (fBody (stAt body0 11)) (fScope (stAt body0 11)) .none .none (docAt C.K 273) (pmAt C.K 273) none (.ref 272) .none), #[]⟩ := by rw [H.hK]; kernel_rfl
theorem kp__law_grown (H : Ok C) : keepIn C.K (.ref 273) = true := by rw [H.hK]; kernel_rfl
theorem fn__law_grown (H : Ok C) : isFn C.K (.ref 273) = true := by rw [H.hK]; kernel_rfl
noncomputable abbrev e__law_grown (L : Nat) : Env := envOf (Str.ofString "_law_grown") (fScope (stAt body0 11)) L 273 (.ref 272)
noncomputable abbrev m__law_grown_b1 (C : Cx) : M Fl := do let f ← (do let a ← (do let l ← (do let a ← (do let a ← (ldM 9); let b ← (pure (.int 1)); subM a b); let l ← (do let a ← (do let a ← (ldM 10); let b ← (pure (.int 1)); subM a b); let l ← (do let a ← (do let a ← (ldM 11); let b ← (pure (.int 1)); addM a b); let l ← (pure []); pure (a :: l)); pure (a :: l)); pure (a :: l)); tupM l); swM 3 (asCons (stM 11) (asCons (stM 10) (asCons (stM 9) asNil))) a; pure .next); thenM f (pure .next)
theorem d__law_grown_b1 (H : Ok C) (L : Nat) : DS C 0 (e__law_grown L) (execs (loopBody (stAt (fBody (stAt body0 11)) 2)) (e__law_grown L)) (m__law_grown_b1 C) :=
  (ds_cons (ds_assign_swapped (den_tuple (den_items_cons (den_binop (den_local 9 rfl rfl) den_int do_sub) (den_items_cons (den_binop (den_local 10 rfl rfl) den_int do_sub) (den_items_cons (den_binop (den_local 11 rfl rfl) den_int do_add) den_items_nil rfl) rfl) rfl)) (das_cons (bind_local 11 rfl) (das_cons (bind_local 10 rfl) (das_cons (bind_local 9 rfl) das_nil))) rfl rfl rfl) ds_nil)
noncomputable abbrev w__law_grown_b1 (C : Cx) : M Bool := do let b ← (do let a ← (ldM 9); let b ← (ldM 5); gtM a b); if b then (do let b ← (do let a ← (ldM 10); let b ← (ldM 7); gtM a b); if b then (do let b ← (do let a ← (do let a ← (ldM 0); let b ← (do let a ← (ldM 9); let b ← (pure (.int 1)); subM a b); itemM a b); let b ← (do let a ← (ldM 1); let b ← (do let a ← (ldM 10); let b ← (pure (.int 1)); subM a b); itemM a b); eqIM a b); if b then (do let b ← (do let b ← (do let a ← (ldM 4); let b ← (pure .none); isM a b); if b then pure true else (do let b ← (do let a ← (do let a ← (ldM 1); let b ← (do let a ← (ldM 10); let b ← (pure (.int 1)); subM a b); itemM a b); let b ← (ldM 4); inM a b); if b then pure true else (pure false))); if b then (pure true) else pure false) else pure false) else pure false) else pure false
noncomputable abbrev m__law_grown_b2 (C : Cx) : M Fl := do let f ← (do let a ← (do let a ← (ldM 11); let b ← (pure (.int 1)); addM a b); (stM 11) a; pure .next); thenM f (pure .next)
theorem d__law_grown_b2 (H : Ok C) (L : Nat) : DS C 0 (e__law_grown L) (execs (loopBody (stAt (fBody (stAt body0 11)) 3)) (e__law_grown L)) (m__law_grown_b2 C) :=
  (ds_cons (ds_assign (den_binop (den_local 11 rfl rfl) den_int do_add) (da_name 11 rfl) rfl rfl rfl) ds_nil)
noncomputable abbrev w__law_grown_b2 (C : Cx) : M Bool := do let b ← (do let a ← (do let a ← (ldM 9); let b ← (ldM 11); addM a b); let b ← (ldM 6); ltM a b); if b then (do let b ← (do let a ← (do let a ← (ldM 10); let b ← (ldM 11); addM a b); let b ← (ldM 8); ltM a b); if b then (do let b ← (do let a ← (do let a ← (ldM 0); let b ← (do let a ← (ldM 9); let b ← (ldM 11); addM a b); itemM a b); let b ← (do let a ← (ldM 1); let b ← (do let a ← (ldM 10); let b ← (ldM 11); addM a b); itemM a b); eqIM a b); if b then (do let b ← (do let b ← (do let a ← (ldM 4); let b ← (pure .none); isM a b); if b then pure true else (do let b ← (do let a ← (do let a ← (ldM 1); let b ← (do let a ← (ldM 10); let b ← (ldM 11); addM a b); itemM a b); let b ← (ldM 4); inM a b); if b then pure true else (pure false))); if b then (pure true) else pure false) else pure false) else pure false) else pure false
noncomputable abbrev m__law_grown (C : Cx) : M Fl := do let f ← (do let a ← (ldM 3); (unpM 4 (asCons (stM 5) (asCons (stM 6) (asCons (stM 7) (asCons (stM 8) asNil))))) a; pure .next); thenM f (do let f ← (do let a ← (ldM 2); (unpM 3 (asCons (stM 9) (asCons (stM 10) (asCons (stM 11) asNil)))) a; pure .next); thenM f (do let f ← (whileM fuel (w__law_grown_b1 C) (m__law_grown_b1 C)); thenM f (do let f ← (whileM fuel (w__law_grown_b2 C) (m__law_grown_b2 C)); thenM f (do let f ← (do let a ← (do let l ← (do let a ← (ldM 9); let l ← (do let a ← (ldM 10); let l ← (do let a ← (ldM 11); let l ← (pure []); pure (a :: l)); pure (a :: l)); pure (a :: l)); tupM l); pure (.ret a)); thenM f (pure .next)))))
theorem d__law_grown (H : Ok C) (L : Nat) : DS C 0 (e__law_grown L) (execs (fBody (stAt body0 11)) (e__law_grown L)) (m__law_grown C) :=
  (ds_cons (ds_assign (den_local 3 rfl rfl) (da_tuple (das_cons (da_name 5 rfl) (das_cons (da_name 6 rfl) (das_cons (da_name 7 rfl) (das_cons (da_name 8 rfl) das_nil)))) rfl rfl) rfl rfl rfl) (ds_cons (ds_assign (den_local 2 rfl rfl) (da_tuple (das_cons (da_name 9 rfl) (das_cons (da_name 10 rfl) (das_cons (da_name 11 rfl) das_nil))) rfl rfl) rfl rfl rfl) (ds_cons (ds_while fuel (den_boolop (den_and_cons (den_cmpB (den_local 9 rfl rfl) (den_local 5 rfl rfl) do_gt rfl) (den_and_cons (den_cmpB (den_local 10 rfl rfl) (den_local 7 rfl rfl) do_gt rfl) (den_and_cons (den_cmpB (den_item (den_local 0 rfl rfl) (den_binop (den_local 9 rfl rfl) den_int do_sub) (fun _ _ => rfl)) (den_item (den_local 1 rfl rfl) (den_binop (den_local 10 rfl rfl) den_int do_sub) (fun _ _ => rfl)) do_eqI rfl) (den_and_cons (den_boolop (den_or_cons (den_cmpB (den_local 4 rfl rfl) den_none do_is rfl) (den_or_cons (den_cmpB (den_item (den_local 1 rfl rfl) (den_binop (den_local 10 rfl rfl) den_int do_sub) (fun _ _ => rfl)) (den_local 4 rfl rfl) do_in rfl) den_or_nil))) den_and_nil))))) (d__law_grown_b1 H L)) (ds_cons (ds_while fuel (den_boolop (den_and_cons (den_cmpB (den_binop (den_local 9 rfl rfl) (den_local 11 rfl rfl) do_add) (den_local 6 rfl rfl) do_lt rfl) (den_and_cons (den_cmpB (den_binop (den_local 10 rfl rfl) (den_local 11 rfl rfl) do_add) (den_local 8 rfl rfl) do_lt rfl) (den_and_cons (den_cmpB (den_item (den_local 0 rfl rfl) (den_binop (den_local 9 rfl rfl) (den_local 11 rfl rfl) do_add) (fun _ _ => rfl)) (den_item (den_local 1 rfl rfl) (den_binop (den_local 10 rfl rfl) (den_local 11 rfl rfl) do_add) (fun _ _ => rfl)) do_eqI rfl) (den_and_cons (den_boolop (den_or_cons (den_cmpB (den_local 4 rfl rfl) den_none do_is rfl) (den_or_cons (den_cmpB (den_item (den_local 1 rfl rfl) (den_binop (den_local 10 rfl rfl) (den_local 11 rfl rfl) do_add) (fun _ _ => rfl)) (den_local 4 rfl rfl) do_in rfl) den_or_nil))) den_and_nil))))) (d__law_grown_b2 H L)) (ds_cons (ds_return (den_tuple (den_items_cons (den_local 9 rfl rfl) (den_items_cons (den_local 10 rfl rfl) (den_items_cons (den_local 11 rfl rfl) den_items_nil rfl) rfl) rfl))) ds_nil)))))
def bf__law_grown (l : List AV) : Option (List (Option AV)) := if l.length = 5 then some (l.map some ++ List.replicate 7 none) else none
theorem bd__law_grown (H : Ok C) (doc pm : Value) : Binds C (fnOf (Str.ofString "_law_grown") (Str.ofString "_law_grown") (fParams (stAt body0 11)) (fBody (stAt body0 11)) (fScope (stAt body0 11)) .none .none doc pm none (.ref 272) .none) (fScope (stAt body0 11)) bf__law_grown :=
  binds_plain (ns := [Str.ofString "first", Str.ofString "second", Str.ofString "found", Str.ofString "window", Str.ofString "kinds"]) 7 (fun i x h => by
    match i, h with
    | 0, h => cases h; rfl
    | 1, h => cases h; rfl
    | 2, h => cases h; rfl
    | 3, h => cases h; rfl
    | 4, h => cases h; rfl
    | i + 5, h => simp at h) (by decide) (by decide) (fun vs hv s X => by
    match vs, hv with
    | [v0, v1, v2, v3, v4], _ => exact BindsTo.of_eq rfl)
noncomputable def g__law_grown (C : Cx) : List AV → M AV := fnM bf__law_grown (m__law_grown C)
theorem c__law_grown (H : Ok C) {env : Env} : DCode C 1 env (.ref 273) (g__law_grown C) :=
  dcode_fn (lk__law_grown H) (by rw [H.hK]; kernel_rfl) (bd__law_grown H _ _) (fun L => d__law_grown H L) rfl (by decide) (by decide) rfl rfl
theorem lk__law_plain (H : Ok C) : C.K.lookup 280 = some ⟨.type "function", none, .func (fnOf (Str.ofString "_law_plain") (Str.ofString "_law_plain") (fParams (stAt body0 12)) (fBody (stAt body0 12)) (fScope (stAt body0 12)) .none .none (docAt C.K 280) (pmAt C.K 280) none (.ref 279) .none), #[]⟩ := by rw [H.hK]; kernel_rfl
theorem kp__law_plain (H : Ok C) : keepIn C.K (.ref 280) = true := by rw [H.hK]; kernel_rfl
theorem fn__law_plain (H : Ok C) : isFn C.K (.ref 280) = true := by rw [H.hK]; kernel_rfl
noncomputable abbrev e__law_plain (L : Nat) : Env := envOf (Str.ofString "_law_plain") (fScope (stAt body0 12)) L 280 (.ref 279)
noncomputable abbrev m__law_plain (C : Cx) : M Fl := do let f ← (do let a ← (do let l ← (do let a ← (do let a ← (ldM 0); mattrM C (.ref dsc0) (g_get C) a); let l ← (do let a ← (do let a ← (ldM 0); mattrM C (.ref dsc1) (g_get C) a); let l ← (do let a ← (do let a ← (ldM 0); mattrM C (.ref dsc2) (g_get C) a); let l ← (pure []); pure (a :: l)); pure (a :: l)); pure (a :: l)); tupM l); pure (.ret a)); thenM f (pure .next)
theorem d__law_plain (H : Ok C) (L : Nat) : DS C 2 (e__law_plain L) (execs (fBody (stAt body0 12)) (e__law_plain L)) (m__law_plain C) :=
  (ds_cons (ds_return (den_tuple (den_items_cons (den_mattr (den_local 0 rfl rfl) rfl (mk H) (mg_ga H) (mg_hk H) (mg_at0 H) (mg_sp0 H) (mg_tk0 H) (DCode.mono (c_get H) (by decide))) (den_items_cons (den_mattr (den_local 0 rfl rfl) rfl (mk H) (mg_ga H) (mg_hk H) (mg_at1 H) (mg_sp1 H) (mg_tk1 H) (DCode.mono (c_get H) (by decide))) (den_items_cons (den_mattr (den_local 0 rfl rfl) rfl (mk H) (mg_ga H) (mg_hk H) (mg_at2 H) (mg_sp2 H) (mg_tk2 H) (DCode.mono (c_get H) (by decide))) den_items_nil rfl) rfl) rfl))) ds_nil)
def bf__law_plain (l : List AV) : Option (List (Option AV)) := if l.length = 1 then some (l.map some ++ List.replicate 0 none) else none
theorem bd__law_plain (H : Ok C) (doc pm : Value) : Binds C (fnOf (Str.ofString "_law_plain") (Str.ofString "_law_plain") (fParams (stAt body0 12)) (fBody (stAt body0 12)) (fScope (stAt body0 12)) .none .none doc pm none (.ref 279) .none) (fScope (stAt body0 12)) bf__law_plain :=
  binds_plain (ns := [Str.ofString "told"]) 0 (fun i x h => by
    match i, h with
    | 0, h => cases h; rfl
    | i + 1, h => simp at h) (by decide) (by decide) (fun vs hv s X => by
    match vs, hv with
    | [v0], _ => exact BindsTo.of_eq rfl)
noncomputable def g__law_plain (C : Cx) : List AV → M AV := fnM bf__law_plain (m__law_plain C)
theorem c__law_plain (H : Ok C) {env : Env} : DCode C 3 env (.ref 280) (g__law_plain C) :=
  dcode_fn (lk__law_plain H) (by rw [H.hK]; kernel_rfl) (bd__law_plain H _ _) (fun L => d__law_plain H L) rfl (by decide) (by decide) rfl rfl
end
end Mine

open PySem PySem.W PyProof.Rows
set_option Elab.async false
set_option maxRecDepth 100000
set_option maxHeartbeats 1000000
set_option linter.unusedVariables false
namespace Mine
section
variable {C : Cx}
theorem lk_law (H : Ok C) : C.K.lookup 287 = some ⟨.type "function", none, .func (fnOf (Str.ofString "law") (Str.ofString "law") (fParams (stAt body0 13)) (fBody (stAt body0 13)) (fScope (stAt body0 13)) .none .none (docAt C.K 287) (pmAt C.K 287) none (.ref 286) .none), #[]⟩ := by rw [H.hK]; kernel_rfl
theorem kp_law (H : Ok C) : keepIn C.K (.ref 287) = true := by rw [H.hK]; kernel_rfl
theorem fn_law (H : Ok C) : isFn C.K (.ref 287) = true := by rw [H.hK]; kernel_rfl
noncomputable abbrev e_law (L : Nat) : Env := envOf (Str.ofString "law") (fScope (stAt body0 13)) L 287 (.ref 286)
noncomputable abbrev m_law_b1 (C : Cx) (sa : Nat) (ns : List Int) : M Fl := do let f ← (do let b ← (do let a ← (do let a ← (ldM 2); let b ← (ldM 4); itemM a b); let b ← (pure (.tup (noise.map .int))); notInM a b); if b then (do let f ← (do let a ← (do let a ← (do let a ← (ldM 3); chkM "dict" a; let l ← (do let a ← (do let a ← (ldM 2); let b ← (ldM 4); itemM a b); let l ← (do let a ← (do let l ← (pure []); tupM l); let l ← (pure []); pure (a :: l)); pure (a :: l)); dgetM (a :: l)); let b ← (do let l ← (do let a ← (ldM 4); let l ← (pure []); pure (a :: l)); tupM l); addM a b); (fun v => do let a ← (ldM 3); let b ← (do let a ← (ldM 2); let b ← (ldM 4); itemM a b); setItemM a b v) a; pure .next); thenM f (pure .next)) else (pure .next)); thenM f (pure .next)
theorem d_law_b1 (H : Ok C) {sa : Nat} {ns : List Int} (HS : ScrAt C sa ns) (L : Nat) : DS C 6 (e_law L) (execs (loopBody (stAt (fBody (stAt body0 13)) 3)) (e_law L)) (m_law_b1 C sa ns) :=
  (ds_cons (ds_if (den_cmpB (den_item (den_local 2 rfl rfl) (den_local 4 rfl rfl) (fun _ _ => rfl)) (den_globT (n__law_NOISE H) (t__law_NOISE H) i__law_NOISE rfl rfl) do_notIn rfl) (ds_cons (ds_assign (den_binop (den_meth (den_local 3 rfl rfl) (den_items_cons (den_item (den_local 2 rfl rfl) (den_local 4 rfl rfl) (fun _ _ => rfl)) (den_items_cons (den_tuple den_items_nil) den_items_nil rfl) rfl) dc_dget PySem.F.plainAttrs_dict PySem.F.slot_dict_get PySem.F.type_dict_get rfl rfl rfl rfl) (den_tuple (den_items_cons (den_local 4 rfl rfl) den_items_nil rfl)) do_add) (da_sub (den_local 3 rfl rfl) (den_item (den_local 2 rfl rfl) (den_local 4 rfl rfl) (fun _ _ => rfl))) rfl rfl rfl) ds_nil) ds_nil) ds_nil)
noncomputable abbrev m_law_b2 (C : Cx) (sa : Nat) (ns : List Int) : M Fl := do let f ← (do let a ← (do let a ← (ldM 6); let b ← (do let a ← (ldM 1); let b ← (pure (.int 12)); subM a b); modM a b); (stM 7) a; pure .next); thenM f (do let f ← (do let a ← (do let a ← (do let a ← (ldM 5); let b ← (do let v ← (ldM 2); let a ← (ldM 7); let b ← (do let a ← (do let a ← (ldM 7); let b ← (pure (.int 3)); addM a b); let b ← (do let a ← (do let a ← (ldM 6); let b ← (pure (.int 200)); divM a b); let b ← (pure (.int 9)); modM a b); addM a b); sliceM v a b); addM a b); let b ← (do let l ← (do let a ← (do let b ← (do let a ← (do let a ← (ldM 6); let b ← (pure (.int 2)); modM a b); let b ← (pure (.int 1)); eqIM a b); if b then (pure (.int 9)) else (pure (.int 1))); let l ← (pure []); pure (a :: l)); mkListM l); addM a b); (stM 5) a; pure .next); thenM f (pure .next))
theorem d_law_b2 (H : Ok C) {sa : Nat} {ns : List Int} (HS : ScrAt C sa ns) (L : Nat) : DS C 6 (e_law L) (execs (loopBody (stAt (fBody (stAt body0 13)) 5)) (e_law L)) (m_law_b2 C sa ns) :=
  (ds_cons (ds_assign (den_binop (den_local 6 rfl rfl) (den_binop (den_local 1 rfl rfl) den_int do_sub) do_mod) (da_name 7 rfl) rfl rfl rfl) (ds_cons (ds_assign (den_binop (den_binop (den_local 5 rfl rfl) (den_slice (den_local 2 rfl rfl) (den_part_some (den_local 7 rfl rfl)) (den_part_some (den_binop (den_binop (den_local 7 rfl rfl) den_int do_add) (den_binop (den_binop (den_local 6 rfl rfl) den_int do_div) den_int do_mod) do_add))) do_add) (den_list (den_items_cons (den_ifexp (den_cmpB (den_binop (den_local 6 rfl rfl) den_int do_mod) den_int do_eqI rfl) den_int den_int) den_items_nil rfl)) do_add) (da_name 5 rfl) rfl rfl rfl) ds_nil))
noncomputable abbrev m_law_b3 (C : Cx) (sa : Nat) (ns : List Int) : M Fl := do let f ← (do let a ← (do let a ← (ldM 12); let b ← (do let a ← (ldM 10); let b ← (pure (.int 1)); addM a b); modM a b); (stM 13) a; pure .next); thenM f (do let f ← (do let a ← (do let a ← (ldM 13); let b ← (do let a ← (do let a ← (ldM 12); let b ← (pure (.int 3)); divM a b); let b ← (do let a ← (do let a ← (ldM 10); let b ← (pure (.int 1)); addM a b); let b ← (ldM 13); subM a b); modM a b); addM a b); (stM 14) a; pure .next); thenM f (do let f ← (do let a ← (do let a ← (do let a ← (ldM 12); let b ← (pure (.int 11)); divM a b); let b ← (ldM 1); modM a b); (stM 15) a; pure .next); thenM f (do let f ← (do let a ← (do let a ← (do let a ← (ldM 15); let b ← (pure (.int 1)); addM a b); let b ← (do let a ← (do let a ← (ldM 12); let b ← (pure (.int 7)); divM a b); let b ← (do let a ← (ldM 1); let b ← (ldM 15); subM a b); modM a b); addM a b); (stM 16) a; pure .next); thenM f (do let f ← (do let a ← (do let a ← (ldM 11); let b ← (do let l ← (do let a ← (do let l ← (do let a ← (ldM 13); let l ← (do let a ← (ldM 14); let l ← (do let a ← (pure (.int 0)); let l ← (do let a ← (ldM 1); let l ← (pure []); pure (a :: l)); pure (a :: l)); pure (a :: l)); pure (a :: l)); tupM l); let l ← (do let a ← (do let l ← (do let a ← (pure (.int 0)); let l ← (do let a ← (ldM 10); let l ← (do let a ← (ldM 15); let l ← (do let a ← (ldM 1); let l ← (pure []); pure (a :: l)); pure (a :: l)); pure (a :: l)); pure (a :: l)); tupM l); let l ← (do let a ← (do let l ← (do let a ← (ldM 13); let l ← (do let a ← (ldM 14); let l ← (do let a ← (ldM 15); let l ← (do let a ← (ldM 16); let l ← (pure []); pure (a :: l)); pure (a :: l)); pure (a :: l)); pure (a :: l)); tupM l); let l ← (pure []); pure (a :: l)); pure (a :: l)); pure (a :: l)); mkListM l); addM a b); (stM 11) a; pure .next); thenM f (pure .next)))))
theorem d_law_b3 (H : Ok C) {sa : Nat} {ns : List Int} (HS : ScrAt C sa ns) (L : Nat) : DS C 6 (e_law L) (execs (loopBody (stAt (fBody (stAt body0 13)) 12)) (e_law L)) (m_law_b3 C sa ns) :=
  (ds_cons (ds_assign (den_binop (den_local 12 rfl rfl) (den_binop (den_local 10 rfl rfl) den_int do_add) do_mod) (da_name 13 rfl) rfl rfl rfl) (ds_cons (ds_assign (den_binop (den_local 13 rfl rfl) (den_binop (den_binop (den_local 12 rfl rfl) den_int do_div) (den_binop (den_binop (den_local 10 rfl rfl) den_int do_add) (den_local 13 rfl rfl) do_sub) do_mod) do_add) (da_name 14 rfl) rfl rfl rfl) (ds_cons (ds_assign (den_binop (den_binop (den_local 12 rfl rfl) den_int do_div) (den_local 1 rfl rfl) do_mod) (da_name 15 rfl) rfl rfl rfl) (ds_cons (ds_assign (den_binop (den_binop (den_local 15 rfl rfl) den_int do_add) (den_binop (den_binop (den_local 12 rfl rfl) den_int do_div) (den_binop (den_local 1 rfl rfl) (den_local 15 rfl rfl) do_sub) do_mod) do_add) (da_name 16 rfl) rfl rfl rfl) (ds_cons (ds_assign (den_binop (den_local 11 rfl rfl) (den_list (den_items_cons (den_tuple (den_items_cons (den_local 13 rfl rfl) (den_items_cons (den_local 14 rfl rfl) (den_items_cons den_int (den_items_cons (den_local 1 rfl rfl) den_items_nil rfl) rfl) rfl) rfl)) (den_items_cons (den_tuple (den_items_cons den_int (den_items_cons (den_local 10 rfl rfl) (den_items_cons (den_local 15 rfl rfl) (den_items_cons (den_local 1 rfl rfl) den_items_nil rfl) rfl) rfl) rfl)) (den_items_cons (den_tuple (den_items_cons (den_local 13 rfl rfl) (den_items_cons (den_local 14 rfl rfl) (den_items_cons (den_local 15 rfl rfl) (den_items_cons (den_local 16 rfl rfl) den_items_nil rfl) rfl) rfl) rfl)) den_items_nil rfl) rfl) rfl)) do_add) (da_name 11 rfl) rfl rfl rfl) ds_nil)))))
noncomputable abbrev m_law_b4 (C : Cx) (sa : Nat) (ns : List Int) : M Fl := do let f ← (do let a ← (do let l ← (do let a ← (ldM 5); let l ← (do let a ← (ldM 2); let l ← (do let a ← (ldM 3); let l ← (do let a ← (ldM 17); let l ← (pure []); pure (a :: l)); pure (a :: l)); pure (a :: l)); pure (a :: l)); g__law_heart C l); (stM 18) a; pure .next); thenM f (do let f ← (do let a ← (do let l ← (do let a ← (ldM 5); let l ← (do let a ← (ldM 2); let l ← (do let a ← (ldM 18); let l ← (do let a ← (ldM 17); let l ← (do let a ← (pure (.tup (noise.map .int))); let l ← (pure []); pure (a :: l)); pure (a :: l)); pure (a :: l)); pure (a :: l)); pure (a :: l)); g__law_grown C l); (stM 19) a; pure .next); thenM f (do let f ← (do let a ← (do let l ← (do let a ← (ldM 5); let l ← (do let a ← (ldM 2); let l ← (do let a ← (ldM 19); let l ← (do let a ← (ldM 17); let l ← (do let a ← (pure .none); let l ← (pure []); pure (a :: l)); pure (a :: l)); pure (a :: l)); pure (a :: l)); pure (a :: l)); g__law_grown C l); (stM 20) a; pure .next); thenM f (do let f ← (do let b ← (do let a ← (do let l ← (do let a ← (do let a ← (ldM 9); instM a; let l ← (do let a ← (do let a ← (ldM 17); let b ← (pure (.int 0)); itemM a b); let l ← (do let a ← (do let a ← (ldM 17); let b ← (pure (.int 1)); itemM a b); let l ← (do let a ← (do let a ← (ldM 17); let b ← (pure (.int 2)); itemM a b); let l ← (do let a ← (do let a ← (ldM 17); let b ← (pure (.int 3)); itemM a b); let l ← (pure []); pure (a :: l)); pure (a :: l)); pure (a :: l)); pure (a :: l)); g_find_longest_match C (a :: l)); let l ← (pure []); pure (a :: l)); g__law_plain C l); let b ← (ldM 19); neM a b); if b then (do let f ← (do let a ← (pure (.bool false)); pure (.ret a)); thenM f (pure .next)) else (pure .next)); thenM f (do let f ← (do let b ← (do let a ← (do let l ← (do let a ← (do let a ← (ldM 8); instM a; let l ← (do let a ← (do let a ← (ldM 17); let b ← (pure (.int 0)); itemM a b); let l ← (do let a ← (do let a ← (ldM 17); let b ← (pure (.int 1)); itemM a b); let l ← (do let a ← (do let a ← (ldM 17); let b ← (pure (.int 2)); itemM a b); let l ← (do let a ← (do let a ← (ldM 17); let b ← (pure (.int 3)); itemM a b); let l ← (pure []); pure (a :: l)); pure (a :: l)); pure (a :: l)); pure (a :: l)); g_find_longest_match C (a :: l)); let l ← (pure []); pure (a :: l)); g__law_plain C l); let b ← (ldM 20); neM a b); if b then (do let f ← (do let a ← (pure (.bool false)); pure (.ret a)); thenM f (pure .next)) else (pure .next)); thenM f (pure .next)))))
theorem d_law_b4 (H : Ok C) {sa : Nat} {ns : List Int} (HS : ScrAt C sa ns) (L : Nat) : DS C 6 (e_law L) (execs (loopBody (stAt (fBody (stAt body0 13)) 13)) (e_law L)) (m_law_b4 C sa ns) :=
  (ds_cons (ds_assign (den_call (den_glob (.ref 266) (n__law_heart H) rfl rfl) (den_items_cons (den_local 5 rfl rfl) (den_items_cons (den_local 2 rfl rfl) (den_items_cons (den_local 3 rfl rfl) (den_items_cons (den_local 17 rfl rfl) den_items_nil rfl) rfl) rfl) rfl) (DCode.dc (DCode.mono (c__law_heart H) (by decide))) (.inr (kp__law_heart H)) rfl) (da_name 18 rfl) rfl rfl rfl) (ds_cons (ds_assign (den_call (den_glob (.ref 273) (n__law_grown H) rfl rfl) (den_items_cons (den_local 5 rfl rfl) (den_items_cons (den_local 2 rfl rfl) (den_items_cons (den_local 18 rfl rfl) (den_items_cons (den_local 17 rfl rfl) (den_items_cons (den_globT (n__law_NOISE H) (t__law_NOISE H) i__law_NOISE rfl rfl) den_items_nil rfl) rfl) rfl) rfl) rfl) (DCode.dc (DCode.mono (c__law_grown H) (by decide))) (.inr (kp__law_grown H)) rfl) (da_name 19 rfl) rfl rfl rfl) (ds_cons (ds_assign (den_call (den_glob (.ref 273) (n__law_grown H) rfl rfl) (den_items_cons (den_local 5 rfl rfl) (den_items_cons (den_local 2 rfl rfl) (den_items_cons (den_local 19 rfl rfl) (den_items_cons (den_local 17 rfl rfl) (den_items_cons den_none den_items_nil rfl) rfl) rfl) rfl) rfl) (DCode.dc (DCode.mono (c__law_grown H) (by decide))) (.inr (kp__law_grown H)) rfl) (da_name 20 rfl) rfl rfl rfl) (ds_cons (ds_if (den_cmpB (den_call (den_glob (.ref 280) (n__law_plain H) rfl rfl) (den_items_cons (den_minst (den_local 9 rfl rfl) (den_items_cons (den_item (den_local 17 rfl rfl) den_int (fun _ _ => rfl)) (den_items_cons (den_item (den_local 17 rfl rfl) den_int (fun _ _ => rfl)) (den_items_cons (den_item (den_local 17 rfl rfl) den_int (fun _ _ => rfl)) (den_items_cons (den_item (den_local 17 rfl rfl) den_int (fun _ _ => rfl)) den_items_nil rfl) rfl) rfl) rfl) (DCode.dc (DCode.mono (c_find_longest_match H) (by decide))) (s_pg H) (s_f_find_longest_match H) (fn_find_longest_match H) (kp_find_longest_match H) rfl rfl _ rfl) den_items_nil rfl) (DCode.dc (DCode.mono (c__law_plain H) (by decide))) (.inr (kp__law_plain H)) rfl) (den_local 19 rfl rfl) do_ne rfl) (ds_cons (ds_return den_bool) ds_nil) ds_nil) (ds_cons (ds_if (den_cmpB (den_call (den_glob (.ref 280) (n__law_plain H) rfl rfl) (den_items_cons (den_minst (den_local 8 rfl rfl) (den_items_cons (den_item (den_local 17 rfl rfl) den_int (fun _ _ => rfl)) (den_items_cons (den_item (den_local 17 rfl rfl) den_int (fun _ _ => rfl)) (den_items_cons (den_item (den_local 17 rfl rfl) den_int (fun _ _ => rfl)) (den_items_cons (den_item (den_local 17 rfl rfl) den_int (fun _ _ => rfl)) den_items_nil rfl) rfl) rfl) rfl) (DCode.dc (DCode.mono (c_find_longest_match H) (by decide))) (s_pg H) (s_f_find_longest_match H) (fn_find_longest_match H) (kp_find_longest_match H) rfl rfl _ rfl) den_items_nil rfl) (DCode.dc (DCode.mono (c__law_plain H) (by decide))) (.inr (kp__law_plain H)) rfl) (den_local 20 rfl rfl) do_ne rfl) (ds_cons (ds_return den_bool) ds_nil) ds_nil) ds_nil)))))
noncomputable abbrev m_law (C : Cx) (sa : Nat) (ns : List Int) : M Fl := do let f ← (do let a ← (do let a ← (pure (.int 200)); let b ← (do let a ← (do let l ← (do let a ← (ldM 0); let l ← (pure []); pure (a :: l)); sumS sa ns l); let b ← (pure (.int 5)); modM a b); addM a b); (stM 1) a; pure .next); thenM f (do let f ← (do let a ← (do let l ← (do let a ← (ldM 1); let l ← (pure []); pure (a :: l)); g__law_second C l); (stM 2) a; pure .next); thenM f (do let f ← (do let a ← (allocM (.dict [])); (stM 3) a; pure .next); thenM f (do let f ← (do let a ← (do let l ← (do let a ← (ldM 1); let l ← (pure []); pure (a :: l)); rangeM l); let g ← iterM a; forM' fuel g (stM 4) (m_law_b1 C sa ns)); thenM f (do let f ← (do let a ← (do let l ← (pure []); mkListM l); (stM 5) a; pure .next); thenM f (do let f ← (do let a ← (do let a ← (do let l ← (do let a ← (do let v ← (ldM 0); let a ← (pure .none); let b ← (pure (.int 3)); sliceS sa ns v a b); let l ← (pure []); pure (a :: l)); listM l); let b ← (do let v ← (do let l ← (do let a ← (pure (.int 17)); let l ← (do let a ← (pure (.int 43)); let l ← (do let a ← (pure (.int 2226)); let l ← (pure []); pure (a :: l)); pure (a :: l)); pure (a :: l)); mkListM l); let a ← (do let l ← (do let a ← (ldM 0); let l ← (pure []); pure (a :: l)); lenS sa ns l); let b ← (pure .none); sliceM v a b); addM a b); let g ← iterM a; forM' fuel g (stM 6) (m_law_b2 C sa ns)); thenM f (do let f ← (do let a ← (do let l ← (do let a ← (pure .none); let l ← (do let a ← (do let l ← (do let a ← (ldM 5); let l ← (pure []); pure (a :: l)); listM l); let l ← (do let a ← (do let l ← (do let a ← (ldM 2); let l ← (pure []); pure (a :: l)); listM l); let l ← (pure []); pure (a :: l)); pure (a :: l)); pure (a :: l)); g_SequenceMatcher C l); (stM 8) a; pure .next); thenM f (do let f ← (do let a ← (do let l ← (do let a ← (pure (.st (.ref 254))); let l ← (do let a ← (do let l ← (do let a ← (ldM 5); let l ← (pure []); pure (a :: l)); listM l); let l ← (do let a ← (do let l ← (do let a ← (ldM 2); let l ← (pure []); pure (a :: l)); listM l); let l ← (do let a ← (pure (.bool false)); let l ← (pure []); pure (a :: l)); pure (a :: l)); pure (a :: l)); pure (a :: l)); g_SequenceMatcher C l); (stM 9) a; pure .next); thenM f (do let f ← (do let b ← (do let b ← (do let a ← (do let l ← (do let a ← (do let a ← (ldM 8); attrM 9 a); let l ← (pure []); pure (a :: l)); sortedM l); let b ← (do let l ← (do let a ← (pure (.int 1)); let l ← (do let a ← (pure (.int 2)); let l ← (do let a ← (pure (.int 3)); let l ← (pure []); pure (a :: l)); pure (a :: l)); pure (a :: l)); mkListM l); neM a b); if b then pure true else (do let b ← (do let a ← (do let l ← (do let a ← (do let a ← (ldM 8); attrM 8 a); let l ← (pure []); pure (a :: l)); sortedM l); let b ← (do let l ← (pure []); mkListM l); neM a b); if b then pure true else (pure false))); if b then (do let f ← (do let a ← (pure (.bool false)); pure (.ret a)); thenM f (pure .next)) else (pure .next)); thenM f (do let f ← (do let b ← (do let b ← (do let a ← (do let l ← (do let a ← (do let a ← (ldM 9); attrM 8 a); let l ← (pure []); pure (a :: l)); sortedM l); let b ← (do let l ← (do let a ← (pure (.int 1)); let l ← (do let a ← (pure (.int 2)); let l ← (do let a ← (pure (.int 3)); let l ← (pure []); pure (a :: l)); pure (a :: l)); pure (a :: l)); mkListM l); neM a b); if b then pure true else (do let b ← (do let a ← (do let l ← (do let a ← (do let a ← (ldM 9); attrM 9 a); let l ← (pure []); pure (a :: l)); sortedM l); let b ← (do let l ← (pure []); mkListM l); neM a b); if b then pure true else (do let b ← (do let a ← (do let a ← (ldM 8); attrM 7 a); let b ← (do let a ← (ldM 9); attrM 7 a); neDM a b); if b then pure true else (pure false)))); if b then (do let f ← (do let a ← (pure (.bool false)); pure (.ret a)); thenM f (pure .next)) else (pure .next)); thenM f (do let f ← (do let a ← (do let l ← (do let a ← (ldM 5); let l ← (pure []); pure (a :: l)); lenM l); (stM 10) a; pure .next); thenM f (do let f ← (do let a ← (do let l ← (do let a ← (do let l ← (do let a ← (pure (.int 0)); let l ← (do let a ← (ldM 10); let l ← (do let a ← (pure (.int 0)); let l ← (do let a ← (ldM 1); let l ← (pure []); pure (a :: l)); pure (a :: l)); pure (a :: l)); pure (a :: l)); tupM l); let l ← (pure []); pure (a :: l)); mkListM l); (stM 11) a; pure .next); thenM f (do let f ← (do let a ← (do let a ← (do let l ← (do let a ← (do let v ← (ldM 0); let a ← (pure (.int 3)); let b ← (pure (.int 6)); sliceS sa ns v a b); let l ← (pure []); pure (a :: l)); listM l); let b ← (do let v ← (do let l ← (do let a ← (pure (.int 5)); let l ← (do let a ← (pure (.int 77)); let l ← (do let a ← (pure (.int 12345)); let l ← (pure []); pure (a :: l)); pure (a :: l)); pure (a :: l)); mkListM l); let a ← (do let l ← (do let a ← (do let v ← (ldM 0); let a ← (pure (.int 3)); let b ← (pure (.int 6)); sliceS sa ns v a b); let l ← (pure []); pure (a :: l)); lenM l); let b ← (pure .none); sliceM v a b); addM a b); let g ← iterM a; forM' fuel g (stM 12) (m_law_b3 C sa ns)); thenM f (do let f ← (do let a ← (ldM 11); let g ← iterM a; forM' fuel g (stM 17) (m_law_b4 C sa ns)); thenM f (do let f ← (do let a ← (do let a ← (do let l ← (do let a ← (do let a ← (ldM 8); instM a; let l ← (pure []); g_find_longest_match C (a :: l)); let l ← (pure []); pure (a :: l)); g__law_plain C l); let b ← (do let l ← (do let a ← (do let a ← (ldM 8); instM a; let l ← (do let a ← (pure (.int 0)); let l ← (do let a ← (ldM 10); let l ← (do let a ← (pure (.int 0)); let l ← (do let a ← (ldM 1); let l ← (pure []); pure (a :: l)); pure (a :: l)); pure (a :: l)); pure (a :: l)); g_find_longest_match C (a :: l)); let l ← (pure []); pure (a :: l)); g__law_plain C l); let c ← eqM a b; pure (.bool c)); pure (.ret a)); thenM f (pure .next)))))))))))))))
theorem d_law (H : Ok C) {sa : Nat} {ns : List Int} (HS : ScrAt C sa ns) (L : Nat) : DS C 6 (e_law L) (execs (fBody (stAt body0 13)) (e_law L)) (m_law C sa ns) :=
  (ds_cons (ds_assign (den_binop den_int (den_binop (den_call (den_blt (.builtin "sum") (n_sum H) (by kernel_rfl) (by decide) rfl rfl) (den_items_cons (den_local 0 rfl rfl) den_items_nil rfl) (dc_sumS HS) (.inl rfl) rfl) den_int do_mod) do_add) (da_name 1 rfl) rfl rfl rfl) (ds_cons (ds_assign (den_call (den_glob (.ref 259) (n__law_second H) rfl rfl) (den_items_cons (den_local 1 rfl rfl) den_items_nil rfl) (DCode.dc (DCode.mono (c__law_second H) (by decide))) (.inr (kp__law_second H)) rfl) (da_name 2 rfl) rfl rfl rfl) (ds_cons (ds_assign den_dict0 (da_name 3 rfl) rfl rfl rfl) (ds_cons (ds_for_name 4 rfl (den_call (den_blt (.type "range") (n_range H) (by kernel_rfl) (by decide) rfl rfl) (den_items_cons (den_local 1 rfl rfl) den_items_nil rfl) dc_range (.inl rfl) rfl) (d_law_b1 H HS L) (fun _ => rfl)) (ds_cons (ds_assign (den_list den_items_nil) (da_name 5 rfl) rfl rfl rfl) (ds_cons (ds_for_name 6 rfl (den_binop (den_call (den_blt (.type "list") (n_list H) (by kernel_rfl) (by decide) rfl rfl) (den_items_cons (den_sliceS HS (den_local 0 rfl rfl) den_part_none (den_part_some den_int)) den_items_nil rfl) dc_list (.inl rfl) rfl) (den_slice (den_list (den_items_cons den_int (den_items_cons den_int (den_items_cons den_int den_items_nil rfl) rfl) rfl)) (den_part_some (den_call (den_blt (.builtin "len") (n_len H) (by kernel_rfl) (by decide) rfl rfl) (den_items_cons (den_local 0 rfl rfl) den_items_nil rfl) (dc_lenS HS) (.inl rfl) rfl)) den_part_none) do_add) (d_law_b2 H HS L) (fun _ => rfl)) (ds_cons (ds_assign (den_call (den_glob (.ref 242) (n_SequenceMatcher H) rfl rfl) (den_items_cons den_none (den_items_cons (den_call (den_blt (.type "list") (n_list H) (by kernel_rfl) (by decide) rfl rfl) (den_items_cons (den_local 5 rfl rfl) den_items_nil rfl) dc_list (.inl rfl) rfl) (den_items_cons (den_call (den_blt (.type "list") (n_list H) (by kernel_rfl) (by decide) rfl rfl) (den_items_cons (den_local 2 rfl rfl) den_items_nil rfl) dc_list (.inl rfl) rfl) den_items_nil rfl) rfl) rfl) (DCode.dc (DCode.mono (c_SequenceMatcher H) (by decide))) (.inr (kp_SequenceMatcher H)) rfl) (da_name 8 rfl) rfl rfl rfl) (ds_cons (ds_assign (den_call (den_glob (.ref 242) (n_SequenceMatcher H) rfl rfl) (den_items_cons (den_glob (.ref 254) (n__law_named H) rfl rfl) (den_items_cons (den_call (den_blt (.type "list") (n_list H) (by kernel_rfl) (by decide) rfl rfl) (den_items_cons (den_local 5 rfl rfl) den_items_nil rfl) dc_list (.inl rfl) rfl) (den_items_cons (den_call (den_blt (.type "list") (n_list H) (by kernel_rfl) (by decide) rfl rfl) (den_items_cons (den_local 2 rfl rfl) den_items_nil rfl) dc_list (.inl rfl) rfl) (den_items_cons den_bool den_items_nil rfl) rfl) rfl) rfl) (DCode.dc (DCode.mono (c_SequenceMatcher H) (by decide))) (.inr (kp_SequenceMatcher H)) rfl) (da_name 9 rfl) rfl rfl rfl) (ds_cons (ds_if (den_boolop (den_or_cons (den_cmpB (den_call (den_blt (.builtin "sorted") (n_sorted H) (by kernel_rfl) (by decide) rfl rfl) (den_items_cons (den_attr 9 (den_local 8 rfl rfl) rfl rfl (s_pg H) (s_hd H) (s_at_bpopular H) rfl) den_items_nil rfl) dc_sorted (.inl rfl) rfl) (den_list (den_items_cons den_int (den_items_cons den_int (den_items_cons den_int den_items_nil rfl) rfl) rfl)) do_ne rfl) (den_or_cons (den_cmpB (den_call (den_blt (.builtin "sorted") (n_sorted H) (by kernel_rfl) (by decide) rfl rfl) (den_items_cons (den_attr 8 (den_local 8 rfl rfl) rfl rfl (s_pg H) (s_hd H) (s_at_bjunk H) rfl) den_items_nil rfl) dc_sorted (.inl rfl) rfl) (den_list den_items_nil) do_ne rfl) den_or_nil))) (ds_cons (ds_return den_bool) ds_nil) ds_nil) (ds_cons (ds_if (den_boolop (den_or_cons (den_cmpB (den_call (den_blt (.builtin "sorted") (n_sorted H) (by kernel_rfl) (by decide) rfl rfl) (den_items_cons (den_attr 8 (den_local 9 rfl rfl) rfl rfl (s_pg H) (s_hd H) (s_at_bjunk H) rfl) den_items_nil rfl) dc_sorted (.inl rfl) rfl) (den_list (den_items_cons den_int (den_items_cons den_int (den_items_cons den_int den_items_nil rfl) rfl) rfl)) do_ne rfl) (den_or_cons (den_cmpB (den_call (den_blt (.builtin "sorted") (n_sorted H) (by kernel_rfl) (by decide) rfl rfl) (den_items_cons (den_attr 9 (den_local 9 rfl rfl) rfl rfl (s_pg H) (s_hd H) (s_at_bpopular H) rfl) den_items_nil rfl) dc_sorted (.inl rfl) rfl) (den_list den_items_nil) do_ne rfl) (den_or_cons (den_cmpB (den_attr 7 (den_local 8 rfl rfl) rfl rfl (s_pg H) (s_hd H) (s_at_b2j H) rfl) (den_attr 7 (den_local 9 rfl rfl) rfl rfl (s_pg H) (s_hd H) (s_at_b2j H) rfl) do_neD rfl) den_or_nil)))) (ds_cons (ds_return den_bool) ds_nil) ds_nil) (ds_cons (ds_assign (den_call (den_blt (.builtin "len") (n_len H) (by kernel_rfl) (by decide) rfl rfl) (den_items_cons (den_local 5 rfl rfl) den_items_nil rfl) dc_len (.inl rfl) rfl) (da_name 10 rfl) rfl rfl rfl) (ds_cons (ds_assign (den_list (den_items_cons (den_tuple (den_items_cons den_int (den_items_cons (den_local 10 rfl rfl) (den_items_cons den_int (den_items_cons (den_local 1 rfl rfl) den_items_nil rfl) rfl) rfl) rfl)) den_items_nil rfl)) (da_name 11 rfl) rfl rfl rfl) (ds_cons (ds_for_name 12 rfl (den_binop (den_call (den_blt (.type "list") (n_list H) (by kernel_rfl) (by decide) rfl rfl) (den_items_cons (den_sliceS HS (den_local 0 rfl rfl) (den_part_some den_int) (den_part_some den_int)) den_items_nil rfl) dc_list (.inl rfl) rfl) (den_slice (den_list (den_items_cons den_int (den_items_cons den_int (den_items_cons den_int den_items_nil rfl) rfl) rfl)) (den_part_some (den_call (den_blt (.builtin "len") (n_len H) (by kernel_rfl) (by decide) rfl rfl) (den_items_cons (den_sliceS HS (den_local 0 rfl rfl) (den_part_some den_int) (den_part_some den_int)) den_items_nil rfl) dc_len (.inl rfl) rfl)) den_part_none) do_add) (d_law_b3 H HS L) (fun _ => rfl)) (ds_cons (ds_for_name 17 rfl (den_local 11 rfl rfl) (d_law_b4 H HS L) (fun _ => rfl)) (ds_cons (ds_return (den_cmpV (den_call (den_glob (.ref 280) (n__law_plain H) rfl rfl) (den_items_cons (den_minst (den_local 8 rfl rfl) den_items_nil (DCode.dc (DCode.mono (c_find_longest_match H) (by decide))) (s_pg H) (s_f_find_longest_match H) (fn_find_longest_match H) (kp_find_longest_match H) rfl rfl _ rfl) den_items_nil rfl) (DCode.dc (DCode.mono (c__law_plain H) (by decide))) (.inr (kp__law_plain H)) rfl) (den_call (den_glob (.ref 280) (n__law_plain H) rfl rfl) (den_items_cons (den_minst (den_local 8 rfl rfl) (den_items_cons den_int (den_items_cons (den_local 10 rfl rfl) (den_items_cons den_int (den_items_cons (den_local 1 rfl rfl) den_items_nil rfl) rfl) rfl) rfl) (DCode.dc (DCode.mono (c_find_longest_match H) (by decide))) (s_pg H) (s_f_find_longest_match H) (fn_find_longest_match H) (kp_find_longest_match H) rfl rfl _ rfl) den_items_nil rfl) (DCode.dc (DCode.mono (c__law_plain H) (by decide))) (.inr (kp__law_plain H)) rfl) do_eq rfl)) ds_nil)))))))))))))))
def bf_law (l : List AV) : Option (List (Option AV)) := if l.length = 1 then some (l.map some ++ List.replicate 20 none) else none
theorem bd_law (H : Ok C) (doc pm : Value) : Binds C (fnOf (Str.ofString "law") (Str.ofString "law") (fParams (stAt body0 13)) (fBody (stAt body0 13)) (fScope (stAt body0 13)) .none .none doc pm none (.ref 286) .none) (fScope (stAt body0 13)) bf_law :=
  binds_plain (ns := [Str.ofString "script"]) 20 (fun i x h => by
    match i, h with
    | 0, h => cases h; rfl
    | i + 1, h => simp at h) (by decide) (by decide) (fun vs hv s X => by
    match vs, hv with
    | [v0], _ => exact BindsTo.of_eq rfl)
noncomputable def g_law (C : Cx) (sa : Nat) (ns : List Int) : List AV → M AV := fnM bf_law (m_law C sa ns)
theorem c_law (H : Ok C) {sa : Nat} {ns : List Int} (HS : ScrAt C sa ns) {env : Env} : DCode C 7 env (.ref 287) (g_law C sa ns) :=
  dcode_fn (lk_law H) (by rw [H.hK]; kernel_rfl) (bd_law H _ _) (fun L => d_law H HS L) rfl (by decide) (by decide) rfl rfl
end
end Mine

open PySem PySem.W PyProof.Rows
set_option Elab.async false
set_option maxRecDepth 100000
set_option maxHeartbeats 4000000
set_option linter.unusedVariables false
namespace Mine
theorem lookup_zip {α : Type} : ∀ (l : List α) (n a : Nat) (o : α), ((l.zipIdx n).map fun x => (x.2, x.1)).lookup a = some o → n ≤ a ∧ l[a - n]? = some o
  | [], n, a, o, h => by simp at h
  | x :: l, n, a, o, h => by
    simp only [List.zipIdx_cons, List.map_cons, List.lookup_cons] at h
    by_cases e : a = n
    · subst e
      simp at h
      exact ⟨Nat.le_refl _, by simp [h]⟩
    · have : (a == n) = false := by simpa using e
      rw [this] at h
      obtain ⟨h1, h2⟩ := lookup_zip l (n + 1) a o h
      refine ⟨by omega, ?_⟩
      rw [show a - n = (a - (n + 1)) + 1 by omega, List.getElem?_cons_succ]; exact h2
theorem KF_in (P : Params) : (KF P).In (heapF P) := by
  intro a o h
  obtain ⟨_, h⟩ := lookup_zip _ 0 a o h
  have hfr : (heapF P).objs.toList.all (fun o => !o.isFreed) = true := by kernel_rfl
  have hnf := List.all_eq_true.mp hfr o (List.mem_of_getElem? h)
  have h' : (heapF P).objs[a]? = some o := by rw [← Array.getElem?_toList]; simpa using h
  unfold Heap.get?
  rw [h']
  obtain ⟨c, d, dt, sl⟩ := o
  cases dt <;> first | rfl | (simp [Obj.isFreed] at hnf)
/-- the call of the law itself, from what its program gives -/
theorem enter {w : World} {s₁ : Shared} {mg mb : Str → Option Value} {loose : List Str} {q : Program} (T : TopRead q loose mg mb s₁.heap) (Y : ∀ b o, (heapF w.params).get? b = some o → s₁.heap.get? b = some o) (sa : Nat) (its : List Value) (ns : List Int)
    (hs : s₁.heap.get? sa = some { cls := .type "list", data := .seq its.toArray }) (hI : IntsAre its ns) (h63 : ns.length ≤ 63) (hg : s₁.gens = #[])
    (run : ∀ C : Cx, Ok C → ∃ σ', g_law C sa ns [.st (.ref sa)] ⟨[], []⟩ = some (.bool true, σ')) {Q : Value → Shared → Prop} {E : Value → Shared → Prop}
    (hQ : ∀ s', (∀ b o, s₁.heap.get? b = some o → s'.heap.get? b = some o) → s'.os = s₁.os → AllBare s'.gens → Q (.bool true) s') :
    wpAny (model PySem.Challenge.pw_fd5001_01 w) callerA (call (.ref 287) [.ref sa]) Q E s₁ := by
  let C : Cx := { prog := PySem.Challenge.pw_fd5001_01, w := w, h₀ := s₁.heap, K := KF w.params, mC := 135, sC := 242, p := q, loose := loose, mg := mg, mb := mb, X := fun a o e => Y _ _ (KF_in w.params a o e), T := T }
  have H : Ok C := ⟨rfl, rfl, rfl⟩
  have HS : ScrAt C sa ns := ⟨h63, its, hs, hI⟩
  obtain ⟨σ', hrun⟩ := run C H
  have hrun' : fnM bf_law (m_law C sa ns) [.st (.ref sa)] ⟨[], []⟩ = some (.bool true, σ') := hrun
  unfold fnM at hrun'
  split at hrun'
  · rename_i lc hlc
    split at hrun'
    · rename_i fl σ'' hmb
      have hret : retOf fl = .bool true := by
        have := Option.some.inj hrun'
        exact (Prod.mk.inj this).1
      have hKin : C.K.In s₁.heap := C.X
      obtain ⟨binds, hB, hloc, hlcs⟩ := bd_law H (docAt C.K 287) (pmAt C.K 287) [.st (.ref sa)] lc [.ref sa] s₁ [] hlc (.cons (.st _) .nil) hKin
      refine wpAny_call (codeAny_call_def (prog := C.prog) (w := C.w) (fd := fnOf (Str.ofString "law") (Str.ofString "law") (fParams (stAt body0 13)) (fBody (stAt body0 13)) (fScope (stAt body0 13)) .none .none (docAt C.K 287) (pmAt C.K 287) none (.ref 286) .none) (body := fBody (stAt body0 13)) (binds := binds) (by decide) (hKin _ _ (lk_law H)) rfl T.nolimit (codeRec_of hKin (by rw [H.hK]; kernel_rfl)) rfl hB (show ∀ x ∈ (fScope (stAt body0 13)).names, x.2 ≠ .cell by decide) hloc (fun h₁ hns hk₁ => ?_) rfl rfl rfl)
      show wpAny _ (callerA.deeper (e_law s₁.heap.objs.size)) (execs (fBody (stAt body0 13)) (e_law s₁.heap.objs.size)) _ _ _
      have hA' : AOk 6 (callerA.deeper (e_law s₁.heap.objs.size)) := ⟨rfl, (by show 1 + claimMargin + 1 + 2 * 6 ≤ 400; decide), (by show 4 + 3 + 40 * 6 ≤ 1000; decide)⟩
      have hfz : ∀ b o, s₁.heap.get? b = some o → Frozen o → h₁.get? b = some o := fun b o e _ => hk₁ b o e
      have R₁ : Rep C (e_law s₁.heap.objs.size) [] ⟨[], lc⟩ h₁ := {
        base := fun b o e => hk₁ b o e
        above := Nat.le_refl _
        ns := ⟨_, hns, fun i av e => by
          obtain ⟨x, v, hx, hv, hV⟩ := hlcs i av e
          exact ⟨x, .local, hx, .inl ⟨rfl, v, hv, hV.mono hfz (fun _ _ e => e)⟩⟩⟩
        len := rfl
        objs := fun n o q ho hq => by simp at ho
        fresh := fun n a d e => by simp at e
        sep := fun n m a d a' d' e => by simp at e
        names := by show ((fScope (stAt body0 13)).names.map (·.1)).Nodup; decide
        kind := rfl
        globs := rfl
        blts := rfl }
      refine d_law H HS s₁.heap.objs.size _ ⟨[], lc⟩ fl σ'' hA' hmb [] { s₁ with heap := h₁, toks := s₁.toks + binds.length } _ _ R₁ fun ρ' s' v R' S' V' => ?_
      have hkeep : ∀ b o, s₁.heap.get? b = some o → s'.heap.get? b = some o := fun b o e => R'.base b o e
      have hgens : AllBare s'.gens := S'.gens (by show AllBare s₁.gens; rw [hg]; intro y hy; simp at hy)
      cases V' with
      | ret W =>
        have hr : _ = AV.bool true := hret
        simp only [retOf] at hr
        subst hr
        cases W
        exact hQ s' hkeep S'.os hgens
      | _ => simp [retOf] at hret
    · cases hrun'
  · cases hrun'
end Mine

open PySem PySem.W PyProof.Rows
set_option Elab.async false
set_option maxRecDepth 100000
set_option maxHeartbeats 4000000
set_option linter.unusedVariables false
namespace Mine
theorem wints : ∀ {P : Params} {h : Heap} {vs : List Value} {xs : List WData} {ns : List Int}, WellAll P h vs xs → xs = ns.map WData.int → IntsAre vs ns
  | _, _, [], _, [], _, _ => .nil
  | _, _, _ :: _, _, [], .cons _ _, e => by simp at e
  | _, _, [], _, _ :: _, .nil, e => by simp at e
  | _, _, v :: vs, x :: xs, n :: ns, .cons w r, e => by
    simp only [List.map_cons, List.cons.injEq] at e
    obtain ⟨rfl, e⟩ := e
    cases w
    exact .cons _ _ (wints r e)
theorem args_of {args : List WData} (h : WShape.hasAll [] args [.list .int] = true) : ∃ xs, args = [.list xs] ∧ WShape.hasItems [] xs .int = true := by
  cases args with
  | nil => simp [WShape.hasAll] at h
  | cons x r =>
    simp only [WShape.hasAll, Bool.and_eq_true] at h
    obtain ⟨h1, h2⟩ := h
    cases r with
    | cons y r => simp [WShape.hasAll] at h2
    | nil =>
      cases x with
      | list xs =>
        refine ⟨xs, rfl, ?_⟩
        simpa [WShape.has, WShape.arms] using h1
      | _ => simp [WShape.has, WShape.arms] at h1
theorem most_of {ns : List Int} (h : WTm.holds [] (.and (.not (.lt (.lit (.int (63 : Nat))) (.len (.arg 0)))) (.lit (.bool true))) { args := [WData.list (ns.map WData.int)] } = true) : ns.length ≤ 63 := by
  unfold WTm.holds at h
  simp [WTm.value] at h
  have e : less? (WData.int 63) (WData.int (ns.length : Int)) = some (decide ((63 : Int) < ns.length)) := rfl
  rw [e] at h
  by_cases hlt : (63 : Int) < ns.length
  · simp [hlt] at h
  · omega
theorem post_of {as : List WData} {bs : List WData} : (WShape.has [] (.bool true) .bool && WTm.holds [] (.eq .res (.lit (.bool true))) { args := as, res := some (.bool true), after := bs }) = true := by
  unfold WTm.holds
  simp [WTm.value, WShape.has, WShape.arms]
  have e : same (WData.bool true) (WData.bool true) = true := by first | decide +kernel | simp [same]
  rw [e]
theorem ends (run : ∀ (C : Cx) (sa : Nat) (ns : List Int), Ok C → ns.length ≤ 63 → ∃ σ', g_law C sa ns [.st (.ref sa)] ⟨[], []⟩ = some (.bool true, σ')) : PySem.Challenge.rw_fd5001_01.Holds := by
  w_on
  o_law
  refine holds_open (q := qv) (loose := looseV) (Xt := fun _ => true) (XP := fun _ _ => True) (Yf := fun s => s.heap) (Ya := fun w => heapF w.params) (YP := fun w h => ∀ b o, (heapF w.params).get? b = some o → h.get? b = some o) (N := 4770) left ?hY ?hYk (fun _ _ => trivial) (fun _ _ _ _ _ => trivial) (by rfl) (by rfl) (by rfl) ?hRf (by rfl) (by first | assumption | decide +kernel) (by decide +kernel) ⟨rfl, rfl, rfl, rfl, rfl, by decide +kernel⟩ ?hw ?call
  case hw => w_witness2
  case hY => intro w s e b o hb; rw [e]; exact hb
  case hYk => intro w h h' hy hk b o hb; exact hk _ _ (hy _ _ hb)
  case hRf => intro s _; exact recFacts_of (by rfl)
  case call =>
    intro w s₀ s₁ mg mb G Y fa o pm cd doc dV kV ho hd hcd hD hmg hg args vals as hpre hlay hrd hwl hlo
    clear hd hD
    have T := topRead_of G.T
    -- the callee is the module's own law
    have hfa : fa = 287 := by
      have X : (KF w.params).In s₁.heap := fun a o e => Y _ _ (KF_in w.params a o e)
      have hn : nsIn (KF w.params) mainGlobals (Str.ofString "law") = some (some (.ref 287)) := by kernel_rfl
      have := mg_of X T.g hn
      rw [show mg (Str.ofString "law") = some (.ref fa) from hmg] at this
      simpa using this
    subst hfa
    obtain ⟨h1, h2⟩ := Bool.and_eq_true_iff.mp hpre
    obtain ⟨xs, rfl, hxs⟩ := args_of h1
    obtain ⟨ns, rfl⟩ := items_int hxs
    have h63 : ns.length ≤ 63 := by
      exact most_of (by exact h2)
    match vals, hwl with
    | [.ref sa], .cons (.list (vs := its) hs hall) .nil =>
      refine enter T Y sa its ns hs (wints hall rfl) h63 hg (fun C H => run C sa ns H h63) fun s' hk hos hgens => ?_
      refine ⟨.inl ⟨.bool true, .bool true, [], rfl, fun _ => rfl, .bool true, ?_, fun _ => ⟨List.nodup_nil, fun a ha => by simp at ha⟩⟩, .of_keep hk, hos, hgens⟩
      exact post_of
end Mine

open PySem PySem.W PyProof.Rows
set_option Elab.async false
set_option maxRecDepth 100000
set_option maxHeartbeats 1000000
set_option linter.unusedVariables false
namespace Mine
/-! what an M-program comes to -/
def Wp {α : Type} (m : M α) (P : α → St → Prop) (σ : St) : Prop := ∃ a σ', m σ = some (a, σ') ∧ P a σ'
theorem wp_eq {α : Type} {m : M α} {P : α → St → Prop} {σ σ' : St} {a : α} (e : m σ = some (a, σ')) (h : P a σ') : Wp m P σ := ⟨a, σ', e, h⟩
theorem wp_mono {α : Type} {m : M α} {P P' : α → St → Prop} {σ : St} (h : Wp m P σ) (hp : ∀ a σ', P a σ' → P' a σ') : Wp m P' σ := let ⟨a, σ', e, x⟩ := h; ⟨a, σ', e, hp _ _ x⟩
theorem wp_bind {α β : Type} {m : M α} {f : α → M β} {P : β → St → Prop} {σ : St} : Wp (m >>= f) P σ = Wp m (fun a σ' => Wp (f a) P σ') σ := by
  apply propext
  constructor
  · rintro ⟨b, σ₂, e, h⟩
    obtain ⟨a, σ₁, e1, e2⟩ := bind_some e
    exact ⟨a, σ₁, e1, b, σ₂, e2, h⟩
  · rintro ⟨a, σ₁, e1, b, σ₂, e2, h⟩
    exact ⟨b, σ₂, by rw [mb_eq e1]; exact e2, h⟩
theorem wp_pure {α : Type} {a : α} {P : α → St → Prop} {σ : St} : Wp (pure a) P σ = P a σ := by
  apply propext
  constructor
  · rintro ⟨b, σ₂, e, h⟩
    obtain ⟨rfl, rfl⟩ := pure_some e; exact h
  · intro h; exact ⟨a, σ, rfl, h⟩
theorem wp_ite {α : Type} {c : Prop} [Decidable c] {a b : M α} {P : α → St → Prop} {σ : St} : Wp (if c then a else b) P σ = if c then Wp a P σ else Wp b P σ := by split <;> rfl
/-- a program that comes to one end -/
theorem wp_of {α : Type} {m : M α} {P : α → St → Prop} {σ σ' : St} {a : α} (e : m σ = some (a, σ')) : Wp m P σ = P a σ' := by
  apply propext
  constructor
  · rintro ⟨b, σ₂, e', h⟩; rw [e] at e'; cases e'; exact h
  · intro h; exact ⟨a, σ', e, h⟩
theorem wp_none {α : Type} {m : M α} {P : α → St → Prop} {σ : St} (e : m σ = none) : Wp m P σ = False := by
  apply propext
  constructor
  · rintro ⟨b, σ₂, e', h⟩; rw [e] at e'; cases e'
  · exact fun h => h.elim
theorem wp_ld {i : Nat} {P : AV → St → Prop} {hp : List AO} {lc : List (Option AV)} : Wp (ldM i) P ⟨hp, lc⟩ = (match lc[i]? with
    | some (some v) => P v ⟨hp, lc⟩
    | _ => False) := by
  cases h : lc[i]? with
  | none => exact wp_none (by unfold ldM; simp only [h])
  | some o =>
    cases o with
    | none => exact wp_none (by unfold ldM; simp only [h])
    | some v => exact wp_of (by unfold ldM; simp only [h])
theorem wp_st {i : Nat} {v : AV} {P : Unit → St → Prop} {hp : List AO} {lc : List (Option AV)} : Wp (stM i v) P ⟨hp, lc⟩ = P () ⟨hp, lc.set i (some v)⟩ := wp_of rfl
theorem wp_add {a b : Int} {P : AV → St → Prop} {σ : St} : Wp (addM (.int a) (.int b)) P σ = P (.int (a + b)) σ := wp_pure
theorem wp_iadd {a b : Int} {P : AV → St → Prop} {σ : St} : Wp (iaddM (.int a) (.int b)) P σ = P (.int (a + b)) σ := wp_pure
theorem wp_sub {a b : Int} {P : AV → St → Prop} {σ : St} : Wp (subM (.int a) (.int b)) P σ = P (.int (a - b)) σ := wp_pure
theorem wp_lt {a b : Int} {P : Bool → St → Prop} {σ : St} : Wp (ltM (.int a) (.int b)) P σ = P (decide (a < b)) σ := wp_pure
theorem wp_le {a b : Int} {P : Bool → St → Prop} {σ : St} : Wp (leM (.int a) (.int b)) P σ = P (decide (a ≤ b)) σ := wp_pure
theorem wp_gt {a b : Int} {P : Bool → St → Prop} {σ : St} : Wp (gtM (.int a) (.int b)) P σ = P (decide (b < a)) σ := wp_pure
theorem wp_ge {a b : Int} {P : Bool → St → Prop} {σ : St} : Wp (geM (.int a) (.int b)) P σ = P (decide (b ≤ a)) σ := wp_pure
theorem wp_eqI {a b : Int} {P : Bool → St → Prop} {σ : St} : Wp (eqIM (.int a) (.int b)) P σ = P (a == b) σ := wp_pure
theorem wp_neI {a b : Int} {P : Bool → St → Prop} {σ : St} : Wp (neIM (.int a) (.int b)) P σ = P (a != b) σ := wp_pure
theorem wp_isNone {P : Bool → St → Prop} {σ : St} : Wp (isM .none .none) P σ = P true σ := wp_of rfl
theorem wp_isNoneT {l : List AV} {P : Bool → St → Prop} {σ : St} : Wp (isM (.tup l) .none) P σ = P false σ := wp_of rfl
theorem wp_isNoneI {i : Int} {P : Bool → St → Prop} {σ : St} : Wp (isM (.int i) .none) P σ = P false σ := wp_of rfl
theorem wp_tup {l : List AV} {P : AV → St → Prop} {σ : St} : Wp (tupM l) P σ = (l.length ≤ 64 ∧ P (.tup l) σ) := by
  by_cases h : l.length ≤ 64
  · rw [wp_of (a := .tup l) (σ' := σ) (by unfold tupM; rw [if_pos h])]; simp [h]
  · rw [wp_none (by unfold tupM; rw [if_neg h])]; simp [h]
theorem wp_list {l : List AV} {P : AV → St → Prop} {hp : List AO} {lc : List (Option AV)} : Wp (mkListM l) P ⟨hp, lc⟩ = (l.length ≤ 64 ∧ P (.ref hp.length) ⟨hp ++ [.list l], lc⟩) := by
  by_cases h : l.length ≤ 64
  · rw [wp_of (a := .ref hp.length) (σ' := ⟨hp ++ [.list l], lc⟩) (by unfold mkListM; rw [if_pos h]; rfl)]; simp [h]
  · rw [wp_none (by unfold mkListM; rw [if_neg h])]; simp [h]
theorem wp_alloc {o : AO} {P : AV → St → Prop} {hp : List AO} {lc : List (Option AV)} : Wp (allocM o) P ⟨hp, lc⟩ = P (.ref hp.length) ⟨hp ++ [o], lc⟩ := wp_of rfl
theorem wp_sw {n : Nat} {fs : List AV → M Unit} {l : List AV} {P : Unit → St → Prop} {σ : St} (h : l.length = n) : Wp (swM n fs (.tup l)) P σ = Wp (fs l.reverse) P σ := by
  unfold Wp; simp only [swM, h, if_true]
theorem wp_unp {n : Nat} {fs : List AV → M Unit} {l : List AV} {P : Unit → St → Prop} {σ : St} (h : l.length = n) : Wp (unpM n fs (.tup l)) P σ = Wp (fs l) P σ := by
  unfold Wp; simp only [unpM, h, if_true]
theorem wp_asCons {f : AV → M Unit} {fs : List AV → M Unit} {a : AV} {l : List AV} {P : Unit → St → Prop} {σ : St} : Wp (asCons f fs (a :: l)) P σ = Wp (f a) (fun _ σ' => Wp (fs l) P σ') σ := wp_bind
theorem wp_asNil {P : Unit → St → Prop} {σ : St} : Wp (asNil []) P σ = P () σ := wp_pure
theorem wp_then {m : M Fl} {P : Fl → St → Prop} {σ : St} : Wp (thenM .next m) P σ = Wp m P σ := rfl
theorem wp_thenR {v : AV} {m : M Fl} {P : Fl → St → Prop} {σ : St} : Wp (thenM (.ret v) m) P σ = P (.ret v) σ := wp_pure
theorem wp_thenC {m : M Fl} {P : Fl → St → Prop} {σ : St} : Wp (thenM .cont m) P σ = P .cont σ := wp_pure
theorem wp_thenB {m : M Fl} {P : Fl → St → Prop} {σ : St} : Wp (thenM .brk m) P σ = P .brk σ := wp_pure
/-- the item of a list of intsL -/
def it (A : List Int) (i : Int) : Int := A.getD i.toNat 0
def intsL (A : List Int) : List AV := A.map .int
theorem wp_item {n : Nat} {i : Int} {A : List Int} {P : AV → St → Prop} {σ : St} (h : σ.hp[n]? = some (.list (intsL A))) (hl : A.length ≤ lim) (h0 : 0 ≤ i) (h1 : i < A.length) : Wp (itemM (.ref n) (.int i)) P σ = P (.int (it A i)) σ := by
  refine wp_of ?_
  have e : idxOf i (intsL A).length = some i.toNat := by unfold idxOf intsL; rw [if_pos h0, List.length_map, if_pos h1]
  have e2 : (intsL A)[i.toNat]? = some (.int (it A i)) := by
    unfold intsL it
    have hlt : i.toNat < A.length := by omega
    rw [List.getElem?_map, List.getElem?_eq_getElem hlt]
    simp [List.getD, List.getElem?_eq_getElem hlt]
  unfold itemM
  simp only [h]
  rw [if_pos (show (intsL A).length ≤ 1000000 by unfold intsL; rw [List.length_map]; exact hl), e]
  simp only [Option.bind_some, e2]
theorem wp_inT {i : Int} {ns : List Int} {P : Bool → St → Prop} {σ : St} : Wp (inM (.int i) (.tup (ns.map .int))) P σ = P (decide (i ∈ ns)) σ := by
  refine wp_of ?_
  unfold inM; simp only [intsOf_map, Option.map_some]
theorem wp_notInT {i : Int} {ns : List Int} {P : Bool → St → Prop} {σ : St} : Wp (notInM (.int i) (.tup (ns.map .int))) P σ = P (!decide (i ∈ ns)) σ := by
  unfold notInM; rw [wp_bind, wp_inT, wp_pure]
/-! loops -/
theorem wp_while {c : M Bool} {b : M Fl} {P : Fl → St → Prop} (I : Nat → St → Prop)
    (h : ∀ n σ, I n σ → Wp c (fun t σ₁ => if t = true then Wp b (fun f σ₂ => (f = .next ∨ f = .cont) ∧ ∃ n' < n, I n' σ₂) σ₁ else P .next σ₁) σ) : ∀ (n fuel : Nat) (σ : St), n < fuel → I n σ → Wp (whileM fuel c b) P σ := by
  intro n
  induction n using Nat.strongRecOn with
  | _ n ih =>
    intro fuel σ hf hI
    cases fuel with
    | zero => omega
    | succ fuel =>
      unfold whileM
      rw [wp_bind]
      refine wp_mono (h n σ hI) fun t σ₁ h₁ => ?_
      rw [wp_ite]
      cases t with
      | false => simp only [Bool.false_eq_true, if_false] at h₁ ⊢; rw [wp_pure]; exact h₁
      | true =>
        simp only [if_true] at h₁ ⊢
        rw [wp_bind]
        refine wp_mono h₁ fun f σ₂ h₂ => ?_
        obtain ⟨hf', n', hn', hI'⟩ := h₂
        have := ih n' hn' fuel σ₂ (by omega) hI'
        rcases hf' with rfl | rfl <;> exact this
theorem wp_for_range {st : AV → M Unit} {b : M Fl} {P : Fl → St → Prop} (I : Nat → St → Prop) (x : Int) (n : Nat) (h : ∀ i < n, ∀ σ, I i σ → Wp (st (.int (x + i))) (fun _ σ₁ => Wp b (fun f σ₂ => (f = .next ∨ f = .cont) ∧ I (i + 1) σ₂) σ₁) σ)
    (he : ∀ σ, I n σ → P .next σ) : ∀ (m i fuel : Nat) (σ : St), m + i = n → m < fuel → I i σ → Wp (forM' fuel (.range (x + i) m) st b) P σ
  | 0, i, fuel + 1, σ, hm, _, hI => by
    rw [forM', wp_bind]
    show Wp (pure none : M (Option (AV × Src))) _ σ
    rw [wp_pure]
    simp only [wp_pure]
    have : i = n := by omega
    subst this
    exact he σ hI
  | m + 1, i, fuel + 1, σ, hm, hf, hI => by
    rw [forM', wp_bind]
    show Wp (pure (some (.int (x + i), .range (x + i + 1) m)) : M (Option (AV × Src))) _ σ
    rw [wp_pure]
    simp only [wp_bind]
    refine wp_mono (h i (by omega) σ hI) fun _ σ₁ h₁ => wp_mono h₁ fun f σ₂ h₂ => ?_
    have := wp_for_range I x n h he m (i + 1) fuel σ₂ (by omega) (by omega) h₂.2
    have e : x + ((i + 1 : Nat) : Int) = x + i + 1 := by omega
    rw [e] at this
    rcases h₂.1 with rfl | rfl <;> exact this
theorem wp_for_fixed {st : AV → M Unit} {b : M Fl} {P : Fl → St → Prop} (I : List AV → St → Prop) (h : ∀ a r σ, I (a :: r) σ → Wp (st a) (fun _ σ₁ => Wp b (fun f σ₂ => ((f = .next ∨ f = .cont) ∧ I r σ₂) ∨ (f = .brk ∧ P .next σ₂)) σ₁) σ)
    (he : ∀ σ, I [] σ → P .next σ) : ∀ (l : List AV) (fuel : Nat) (σ : St), l.length < fuel → I l σ → Wp (forM' fuel (.fixed l) st b) P σ
  | [], fuel + 1, σ, _, hI => by
    rw [forM', wp_bind]
    show Wp (pure none : M (Option (AV × Src))) _ σ
    rw [wp_pure]
    simp only [wp_pure]
    exact he σ hI
  | a :: r, fuel + 1, σ, hf, hI => by
    rw [forM', wp_bind]
    show Wp (pure (some (a, .fixed r)) : M (Option (AV × Src))) _ σ
    rw [wp_pure]
    simp only [wp_bind]
    refine wp_mono (h a r σ hI) fun _ σ₁ h₁ => wp_mono h₁ fun f σ₂ h₂ => ?_
    rcases h₂ with ⟨hf', hI'⟩ | ⟨rfl, hP⟩
    · have := wp_for_fixed I h he r fuel σ₂ (by simpa using hf) hI'
      rcases hf' with rfl | rfl <;> exact this
    · simp only [wp_pure]; exact hP
theorem wp_for_list {st : AV → M Unit} {b : M Fl} {P : Fl → St → Prop} (I : Nat → St → Prop) (n : Nat) (l : List AV) (hl : ∀ i σ, I i σ → σ.hp[n]? = some (.list l))
    (h : ∀ i (hi : i < l.length) σ, I i σ → Wp (st l[i]) (fun _ σ₁ => Wp b (fun f σ₂ => ((f = .next ∨ f = .cont) ∧ I (i + 1) σ₂) ∨ (f = .brk ∧ P .next σ₂)) σ₁) σ)
    (he : ∀ σ, I l.length σ → P .next σ) : ∀ (m i fuel : Nat) (σ : St), m + i = l.length → m < fuel → I i σ → Wp (forM' fuel (.list n i) st b) P σ
  | 0, i, fuel + 1, σ, hm, _, hI => by
    have hn : nxtM (.list n i) σ = some (none, σ) := by
      show (match σ.hp[n]? with | some (.list l) => _ | _ => none) = _
      rw [hl i σ hI]
      simp only [show l[i]? = none by simp; omega]
    rw [forM', wp_bind, wp_of hn]
    simp only [wp_pure]
    have : i = l.length := by omega
    subst this
    exact he σ hI
  | m + 1, i, fuel + 1, σ, hm, hf, hI => by
    have hi : i < l.length := by omega
    have hn : nxtM (.list n i) σ = some (some (l[i], .list n (i + 1)), σ) := by
      show (match σ.hp[n]? with | some (.list l) => _ | _ => none) = _
      rw [hl i σ hI]
      simp only [List.getElem?_eq_getElem hi]
    rw [forM', wp_bind, wp_of hn]
    simp only [wp_bind]
    refine wp_mono (h i hi σ hI) fun _ σ₁ h₁ => wp_mono h₁ fun f σ₂ h₂ => ?_
    rcases h₂ with ⟨hf', hI'⟩ | ⟨rfl, hP⟩
    · have := wp_for_list I n l hl h he m (i + 1) fuel σ₂ (by omega) (by omega) hI'
      rcases hf' with rfl | rfl <;> exact this
    · simp only [wp_pure]; exact hP
theorem wp_for_enum {st : AV → M Unit} {b : M Fl} {P : Fl → St → Prop} (I : Nat → St → Prop) (n : Nat) (l : List AV) (hl : ∀ i σ, I i σ → σ.hp[n]? = some (.list l))
    (h : ∀ i (hi : i < l.length) σ, I i σ → Wp (st (.tup [.int i, l[i]])) (fun _ σ₁ => Wp b (fun f σ₂ => ((f = .next ∨ f = .cont) ∧ I (i + 1) σ₂) ∨ (f = .brk ∧ P .next σ₂)) σ₁) σ)
    (he : ∀ σ, I l.length σ → P .next σ) : ∀ (m i fuel : Nat) (σ : St), m + i = l.length → m < fuel → I i σ → Wp (forM' fuel (.enum n i) st b) P σ
  | 0, i, fuel + 1, σ, hm, _, hI => by
    have hn : nxtM (.enum n i) σ = some (none, σ) := by
      show (match σ.hp[n]? with | some (.list l) => _ | _ => none) = _
      rw [hl i σ hI]
      simp only [show l[i]? = none by simp; omega]
    rw [forM', wp_bind, wp_of hn]
    simp only [wp_pure]
    have : i = l.length := by omega
    subst this
    exact he σ hI
  | m + 1, i, fuel + 1, σ, hm, hf, hI => by
    have hi : i < l.length := by omega
    have hn : nxtM (.enum n i) σ = some (some (.tup [.int i, l[i]], .enum n (i + 1)), σ) := by
      show (match σ.hp[n]? with | some (.list l) => _ | _ => none) = _
      rw [hl i σ hI]
      simp only [List.getElem?_eq_getElem hi]
    rw [forM', wp_bind, wp_of hn]
    simp only [wp_bind]
    refine wp_mono (h i hi σ hI) fun _ σ₁ h₁ => wp_mono h₁ fun f σ₂ h₂ => ?_
    rcases h₂ with ⟨hf', hI'⟩ | ⟨rfl, hP⟩
    · have := wp_for_enum I n l hl h he m (i + 1) fuel σ₂ (by omega) (by omega) hI'
      rcases hf' with rfl | rfl <;> exact this
    · simp only [wp_pure]; exact hP
/-- a def called -/
theorem wp_fn {bf : List AV → Option (List (Option AV))} {mb : M Fl} {l : List AV} {lc : List (Option AV)} {P : AV → St → Prop} {σ : St} (hb : bf l = some lc) (h : Wp mb (fun f σ' => P (retOf f) ⟨σ'.hp, σ.lc⟩) ⟨σ.hp, lc⟩) : Wp (fnM bf mb l) P σ := by
  obtain ⟨f, σ', e, hP⟩ := h
  exact ⟨retOf f, ⟨σ'.hp, σ.lc⟩, by unfold fnM; simp only [hb, e], hP⟩
end Mine

open PySem PySem.W PyProof.Rows
set_option Elab.async false
set_option maxRecDepth 100000
set_option maxHeartbeats 1000000
set_option linter.unusedVariables false
set_option linter.unusedSimpArgs false
namespace Mine
/-! growth -/
def okL (A B : List Int) (p : Int → Bool) (alo blo i j : Int) : Bool := decide (alo < i) && (decide (blo < j) && ((it A (i - 1) == it B (j - 1)) && p (it B (j - 1))))
def okR (A B : List Int) (p : Int → Bool) (ahi bhi i j : Int) : Bool := decide (i < ahi) && (decide (j < bhi) && ((it A i == it B j) && p (it B j)))
/-- t steps to the left, and no more -/
def GrowL (A B : List Int) (p : Int → Bool) (alo blo i j : Int) (t : Nat) : Prop := (∀ s : Nat, s < t → okL A B p alo blo (i - s) (j - s) = true) ∧ okL A B p alo blo (i - t) (j - t) = false
def GrowR (A B : List Int) (p : Int → Bool) (ahi bhi i j : Int) (t : Nat) : Prop := (∀ s : Nat, s < t → okR A B p ahi bhi (i + s) (j + s) = true) ∧ okR A B p ahi bhi (i + t) (j + t) = false
theorem GrowL.uniq {A B : List Int} {p : Int → Bool} {alo blo i j : Int} {t u : Nat} (h : GrowL A B p alo blo i j t) (h' : GrowL A B p alo blo i j u) : t = u := by
  rcases Nat.lt_trichotomy t u with e | e | e
  · have := h'.1 t e; rw [h.2] at this; cases this
  · exact e
  · have := h.1 u e; rw [h'.2] at this; cases this
theorem GrowR.uniq {A B : List Int} {p : Int → Bool} {ahi bhi i j : Int} {t u : Nat} (h : GrowR A B p ahi bhi i j t) (h' : GrowR A B p ahi bhi i j u) : t = u := by
  rcases Nat.lt_trichotomy t u with e | e | e
  · have := h'.1 t e; rw [h.2] at this; cases this
  · exact e
  · have := h.1 u e; rw [h'.2] at this; cases this
def KindsR (kinds : AV) (p : Int → Bool) : Prop := (kinds = .none ∧ p = fun _ => true) ∨ ∃ ks : List Int, kinds = .tup (ks.map .int) ∧ p = fun x => decide (x ∈ ks)
theorem wp_kinds {kinds : AV} {p : Int → Bool} (hk : KindsR kinds p) {x : Int} {P : Bool → St → Prop} {σ : St} {m : M AV} (hm : m σ = some (.int x, σ)) {c : M AV} (hc : c σ = some (kinds, σ)) {c' : M AV} (hc' : c' σ = some (kinds, σ)) :
    Wp (do let b ← (do let a ← c; let b ← (pure .none); isM a b); if b then pure true else (do let b ← (do let a ← m; let b ← c'; inM a b); if b then pure true else (pure false))) P σ = P (p x) σ := by
  simp only [wp_bind, wp_of hc, wp_pure]
  rcases hk with ⟨rfl, rfl⟩ | ⟨ks, rfl, rfl⟩
  · simp only [wp_isNone, wp_ite, if_true, wp_pure]
  · simp only [wp_isNoneT, wp_ite, Bool.false_eq_true, if_false, wp_bind, wp_of hm, wp_of hc', wp_inT, wp_pure]
    by_cases h : x ∈ ks <;> simp [h]
section
variable {C : Cx} {A B : List Int} {p : Int → Bool} {kinds : AV} {ra rb : Nat} {hp : List AO} {x2 x3 : Option AV} {alo ahi blo bhi i j k : Int}
abbrev gSt (hp : List AO) (ra rb : Nat) (x2 x3 : Option AV) (kinds : AV) (alo ahi blo bhi i j k : Int) : St :=
  ⟨hp, [some (.ref ra), some (.ref rb), x2, x3, some kinds, some (.int alo), some (.int ahi), some (.int blo), some (.int bhi), some (.int i), some (.int j), some (.int k)]⟩
theorem item_run {n : Nat} {i : Int} {A : List Int} {σ : St} (h : σ.hp[n]? = some (.list (intsL A))) (hl : A.length ≤ lim) (h0 : 0 ≤ i) (h1 : i < A.length) : itemM (.ref n) (.int i) σ = some (.int (it A i), σ) := by
  have := wp_item (P := fun a σ' => a = .int (it A i) ∧ σ' = σ) h hl h0 h1
  have h2 : Wp (itemM (.ref n) (.int i)) (fun a σ' => a = .int (it A i) ∧ σ' = σ) σ := by rw [this]; exact ⟨rfl, rfl⟩
  obtain ⟨a, σ', e, rfl, rfl⟩ := h2
  exact e
theorem condL_run (hk : KindsR kinds p) (hA : hp[ra]? = some (.list (intsL A))) (hB : hp[rb]? = some (.list (intsL B))) (lA : A.length ≤ lim) (lB : B.length ≤ lim) (h0 : 0 ≤ alo) (h1 : i ≤ A.length) (h2 : 0 ≤ blo) (h3 : j ≤ B.length) {P : Bool → St → Prop} :
    Wp (w__law_grown_b1 C) P (gSt hp ra rb x2 x3 kinds alo ahi blo bhi i j k) = P (okL A B p alo blo i j) (gSt hp ra rb x2 x3 kinds alo ahi blo bhi i j k) := by
  unfold w__law_grown_b1 gSt okL
  by_cases c1 : alo < i
  · by_cases c2 : blo < j
    · have e1 := item_run (σ := gSt hp ra rb x2 x3 kinds alo ahi blo bhi i j k) hA lA (show 0 ≤ i - 1 by omega) (by omega)
      have e2 := item_run (σ := gSt hp ra rb x2 x3 kinds alo ahi blo bhi i j k) hB lB (show 0 ≤ j - 1 by omega) (by omega)
      unfold gSt at e1 e2
      rcases hk with ⟨rfl, rfl⟩ | ⟨ks, rfl, rfl⟩
      · simp only [wp_bind, wp_pure, wp_ld, wp_st, wp_add, wp_iadd, wp_sub, wp_lt, wp_gt, wp_le, wp_ge, wp_eqI, wp_neI, wp_tup, wp_asCons, wp_asNil, wp_then, wp_thenR, wp_thenC, wp_thenB, List.getElem?_cons_zero, List.getElem?_cons_succ, List.set_cons_zero, List.set_cons_succ, wp_ite, c1, c2, decide_true, if_true, wp_of e1, wp_of e2, wp_isNone, Bool.true_and, Bool.and_true]
        cases it A (i - 1) == it B (j - 1) <;> simp
      · simp only [wp_bind, wp_pure, wp_ld, wp_st, wp_add, wp_iadd, wp_sub, wp_lt, wp_gt, wp_le, wp_ge, wp_eqI, wp_neI, wp_tup, wp_asCons, wp_asNil, wp_then, wp_thenR, wp_thenC, wp_thenB, List.getElem?_cons_zero, List.getElem?_cons_succ, List.set_cons_zero, List.set_cons_succ, wp_ite, c1, c2, decide_true, if_true, wp_of e1, wp_of e2, wp_isNoneT, wp_inT, Bool.true_and, Bool.and_true, Bool.false_eq_true, if_false]
        cases it A (i - 1) == it B (j - 1)
        · simp
        · by_cases c : it B (j - 1) ∈ ks <;> simp [c]
    · simp only [wp_bind, wp_pure, wp_ld, wp_st, wp_add, wp_iadd, wp_sub, wp_lt, wp_gt, wp_le, wp_ge, wp_eqI, wp_neI, wp_tup, wp_asCons, wp_asNil, wp_then, wp_thenR, wp_thenC, wp_thenB, List.getElem?_cons_zero, List.getElem?_cons_succ, List.set_cons_zero, List.set_cons_succ, wp_ite, c1, c2, decide_true, if_true, decide_false, Bool.false_eq_true, if_false, Bool.false_and, Bool.and_false]
  · simp only [wp_bind, wp_pure, wp_ld, wp_st, wp_add, wp_iadd, wp_sub, wp_lt, wp_gt, wp_le, wp_ge, wp_eqI, wp_neI, wp_tup, wp_asCons, wp_asNil, wp_then, wp_thenR, wp_thenC, wp_thenB, List.getElem?_cons_zero, List.getElem?_cons_succ, List.set_cons_zero, List.set_cons_succ, wp_ite, c1, decide_false, Bool.false_eq_true, if_false, Bool.false_and]
theorem condR_run (hk : KindsR kinds p) (hA : hp[ra]? = some (.list (intsL A))) (hB : hp[rb]? = some (.list (intsL B))) (lA : A.length ≤ lim) (lB : B.length ≤ lim) (h0 : 0 ≤ i + k) (h1 : ahi ≤ A.length) (h2 : 0 ≤ j + k) (h3 : bhi ≤ B.length) {P : Bool → St → Prop} :
    Wp (w__law_grown_b2 C) P (gSt hp ra rb x2 x3 kinds alo ahi blo bhi i j k) = P (okR A B p ahi bhi (i + k) (j + k)) (gSt hp ra rb x2 x3 kinds alo ahi blo bhi i j k) := by
  unfold w__law_grown_b2 gSt okR
  by_cases c1 : i + k < ahi
  · by_cases c2 : j + k < bhi
    · have e1 := item_run (σ := gSt hp ra rb x2 x3 kinds alo ahi blo bhi i j k) hA lA (show 0 ≤ i + k by omega) (by omega)
      have e2 := item_run (σ := gSt hp ra rb x2 x3 kinds alo ahi blo bhi i j k) hB lB (show 0 ≤ j + k by omega) (by omega)
      unfold gSt at e1 e2
      rcases hk with ⟨rfl, rfl⟩ | ⟨ks, rfl, rfl⟩
      · simp only [wp_bind, wp_pure, wp_ld, wp_st, wp_add, wp_iadd, wp_sub, wp_lt, wp_gt, wp_le, wp_ge, wp_eqI, wp_neI, wp_tup, wp_asCons, wp_asNil, wp_then, wp_thenR, wp_thenC, wp_thenB, List.getElem?_cons_zero, List.getElem?_cons_succ, List.set_cons_zero, List.set_cons_succ, wp_ite, c1, c2, decide_true, if_true, wp_of e1, wp_of e2, wp_isNone, Bool.true_and, Bool.and_true]
        cases it A (i + k) == it B (j + k) <;> simp
      · simp only [wp_bind, wp_pure, wp_ld, wp_st, wp_add, wp_iadd, wp_sub, wp_lt, wp_gt, wp_le, wp_ge, wp_eqI, wp_neI, wp_tup, wp_asCons, wp_asNil, wp_then, wp_thenR, wp_thenC, wp_thenB, List.getElem?_cons_zero, List.getElem?_cons_succ, List.set_cons_zero, List.set_cons_succ, wp_ite, c1, c2, decide_true, if_true, wp_of e1, wp_of e2, wp_isNoneT, wp_inT, Bool.true_and, Bool.and_true, Bool.false_eq_true, if_false]
        cases it A (i + k) == it B (j + k)
        · simp
        · by_cases c : it B (j + k) ∈ ks <;> simp [c]
    · simp only [wp_bind, wp_pure, wp_ld, wp_st, wp_add, wp_iadd, wp_sub, wp_lt, wp_gt, wp_le, wp_ge, wp_eqI, wp_neI, wp_tup, wp_asCons, wp_asNil, wp_then, wp_thenR, wp_thenC, wp_thenB, List.getElem?_cons_zero, List.getElem?_cons_succ, List.set_cons_zero, List.set_cons_succ, wp_ite, c1, c2, decide_true, if_true, decide_false, Bool.false_eq_true, if_false, Bool.false_and, Bool.and_false]
  · simp only [wp_bind, wp_pure, wp_ld, wp_st, wp_add, wp_iadd, wp_sub, wp_lt, wp_gt, wp_le, wp_ge, wp_eqI, wp_neI, wp_tup, wp_asCons, wp_asNil, wp_then, wp_thenR, wp_thenC, wp_thenB, List.getElem?_cons_zero, List.getElem?_cons_succ, List.set_cons_zero, List.set_cons_succ, wp_ite, c1, decide_false, Bool.false_eq_true, if_false, Bool.false_and]
theorem wp_grown (hk : KindsR kinds p) {σ : St} (hA : σ.hp[ra]? = some (.list (intsL A))) (hB : σ.hp[rb]? = some (.list (intsL B))) (lA : A.length ≤ lim) (lB : B.length ≤ lim) (h0 : 0 ≤ alo) (h1 : alo ≤ i) (h2 : 0 ≤ k) (h3 : i + k ≤ ahi) (h4 : ahi ≤ A.length)
    (g0 : 0 ≤ blo) (g1 : blo ≤ j) (g3 : j + k ≤ bhi) (g4 : bhi ≤ B.length) :
    Wp (g__law_grown C [.ref ra, .ref rb, .tup [.int i, .int j, .int k], .tup [.int alo, .int ahi, .int blo, .int bhi], kinds]) (fun r σ' => σ' = σ ∧ ∃ t u : Nat, GrowL A B p alo blo i j t ∧ GrowR A B p ahi bhi (i + k) (j + k) u ∧ r = .tup [.int (i - t), .int (j - t), .int (k + t + u)]) σ := by
  have hlim : lim = 1000000 := rfl
  have hfu : fuel = 2000000 := rfl
  obtain ⟨hp, slc⟩ := σ
  dsimp only at hA hB
  refine wp_fn (lc := [some (.ref ra), some (.ref rb), some (.tup [.int i, .int j, .int k]), some (.tup [.int alo, .int ahi, .int blo, .int bhi]), some kinds, none, none, none, none, none, none, none]) rfl ?_
  unfold m__law_grown
  simp only [wp_bind, wp_pure, wp_ld, wp_st, wp_add, wp_iadd, wp_sub, wp_lt, wp_gt, wp_le, wp_ge, wp_eqI, wp_neI, wp_tup, wp_asCons, wp_asNil, wp_then, wp_thenR, wp_thenC, wp_thenB, List.getElem?_cons_zero, List.getElem?_cons_succ, List.set_cons_zero, List.set_cons_succ, wp_unp (n := 4) (l := [_, _, _, _]) rfl, wp_unp (n := 3) (l := [_, _, _]) rfl]
  refine wp_while (fun n σ' => ∃ t : Nat, σ' = gSt hp ra rb (some (.tup [.int i, .int j, .int k])) (some (.tup [.int alo, .int ahi, .int blo, .int bhi])) kinds alo ahi blo bhi (i - t) (j - t) (k + t) ∧ n + t = (i - alo).toNat ∧ (t : Int) ≤ j - blo ∧ ∀ s : Nat, s < t → okL A B p alo blo (i - s) (j - s) = true) ?_ ((i - alo).toNat) fuel _ (by rw [hfu]; omega) ⟨0, by simp [gSt], by simp, by omega, fun s hs => by omega⟩
  rintro n σ' ⟨t, rfl, hn, htj, hall⟩
  rw [condL_run hk hA hB lA lB h0 (by omega) g0 (by omega)]
  cases hc : okL A B p alo blo (i - t) (j - t) with
  | true =>
    have hc1 : alo < i - t := by unfold okL at hc; simp at hc; exact hc.1
    have hc2 : blo < j - t := by unfold okL at hc; simp at hc; exact hc.2.1
    simp only [if_true]
    unfold m__law_grown_b1 gSt
    simp only [wp_bind, wp_pure, wp_ld, wp_st, wp_add, wp_iadd, wp_sub, wp_lt, wp_gt, wp_le, wp_ge, wp_eqI, wp_neI, wp_tup, wp_asCons, wp_asNil, wp_then, wp_thenR, wp_thenC, wp_thenB, List.getElem?_cons_zero, List.getElem?_cons_succ, List.set_cons_zero, List.set_cons_succ, wp_sw (n := 3) (l := [_, _, _]) rfl, List.reverse_cons, List.reverse_nil, List.nil_append, List.cons_append, List.length_cons, List.length_nil]
    refine ⟨by decide, .inl trivial, (i - alo).toNat - (t + 1), by omega, t + 1, ?_, by omega, by omega, fun s hs => ?_⟩
    · have e1 : i - ((t + 1 : Nat) : Int) = i - t - 1 := by omega
      have e2 : j - ((t + 1 : Nat) : Int) = j - t - 1 := by omega
      have e3 : k + ((t + 1 : Nat) : Int) = k + t + 1 := by omega
      rw [e1, e2, e3]
    · by_cases hst : s = t
      · subst hst; exact hc
      · exact hall s (by omega)
  | false =>
    simp only [Bool.false_eq_true, if_false, wp_then, wp_bind]
    have GL : GrowL A B p alo blo i j t := ⟨hall, hc⟩
    refine wp_while (fun n σ' => ∃ u : Nat, σ' = gSt hp ra rb (some (.tup [.int i, .int j, .int k])) (some (.tup [.int alo, .int ahi, .int blo, .int bhi])) kinds alo ahi blo bhi (i - t) (j - t) (k + t + u) ∧ n + u = (ahi - (i + k)).toNat ∧ (u : Int) ≤ bhi - (j + k) ∧ ∀ s : Nat, s < u → okR A B p ahi bhi (i + k + s) (j + k + s) = true) ?_ ((ahi - (i + k)).toNat) fuel _ (by rw [hfu]; omega) ⟨0, by simp [gSt], by simp, by omega, fun s hs => by omega⟩
    rintro n' σ' ⟨u, rfl, hn', huj, hall'⟩
    rw [condR_run hk hA hB lA lB (by omega) h4 (by omega) g4]
    have ei : i - (t : Int) + (k + t + u) = i + k + u := by omega
    have ej : j - (t : Int) + (k + t + u) = j + k + u := by omega
    rw [ei, ej]
    cases hc' : okR A B p ahi bhi (i + k + u) (j + k + u) with
    | true =>
      have hc1 : i + k + u < ahi := by unfold okR at hc'; simp at hc'; exact hc'.1
      have hc2 : j + k + u < bhi := by unfold okR at hc'; simp at hc'; exact hc'.2.1
      simp only [if_true]
      unfold m__law_grown_b2 gSt
      simp only [wp_bind, wp_pure, wp_ld, wp_st, wp_add, wp_iadd, wp_sub, wp_lt, wp_gt, wp_le, wp_ge, wp_eqI, wp_neI, wp_tup, wp_asCons, wp_asNil, wp_then, wp_thenR, wp_thenC, wp_thenB, List.getElem?_cons_zero, List.getElem?_cons_succ, List.set_cons_zero, List.set_cons_succ]
      refine ⟨.inl trivial, (ahi - (i + k)).toNat - (u + 1), by omega, u + 1, ?_, by omega, by omega, fun s hs => ?_⟩
      · have e3 : k + t + ((u + 1 : Nat) : Int) = k + t + u + 1 := by omega
        rw [e3]
      · by_cases hst : s = u
        · subst hst; exact hc'
        · exact hall' s (by omega)
    | false =>
      simp only [Bool.false_eq_true, if_false]
      unfold gSt
      simp only [wp_bind, wp_pure, wp_ld, wp_st, wp_add, wp_iadd, wp_sub, wp_lt, wp_gt, wp_le, wp_ge, wp_eqI, wp_neI, wp_tup, wp_asCons, wp_asNil, wp_then, wp_thenR, wp_thenC, wp_thenB, List.getElem?_cons_zero, List.getElem?_cons_succ, List.set_cons_zero, List.set_cons_succ, retOf]
      exact ⟨by simp, trivial, t, u, GL, ⟨hall', hc'⟩, rfl⟩
end
end Mine

open PySem PySem.W PyProof.Rows
set_option Elab.async false
set_option maxRecDepth 100000
set_option maxHeartbeats 1000000
set_option linter.unusedVariables false
set_option linter.unusedSimpArgs false
namespace Mine
/-! the longest run -/
def Run (e : Int → Int → Bool) (i j : Int) (k : Nat) : Prop := ∀ t : Nat, t < k → e (i + t) (j + t) = true
structure HeartOn (S : Int → Int → Nat → Prop) (e : Int → Int → Bool) (alo blo : Int) (i j : Int) (k : Nat) : Prop where
  run : Run e i j k
  none : k = 0 → i = alo ∧ j = blo
  mem : 0 < k → S i j k
  max : ∀ i' j' k', S i' j' k' → Run e i' j' k' → k' ≤ k
  first : 0 < k → ∀ i' j', S i' j' k → Run e i' j' k → i < i' ∨ (i = i' ∧ j ≤ j')
abbrev Heart (e : Int → Int → Bool) (alo blo : Int) (i j : Int) (k : Nat) : Prop := HeartOn (fun _ _ _ => True) e alo blo i j k
theorem Heart.uniq {e : Int → Int → Bool} {alo blo i j i' j' : Int} {k k' : Nat} (h : Heart e alo blo i j k) (h' : Heart e alo blo i' j' k') : i = i' ∧ j = j' ∧ k = k' := by
  have e1 : k = k' := Nat.le_antisymm (h'.max i j k trivial h.run) (h.max i' j' k' trivial h'.run)
  subst e1
  by_cases h0 : k = 0
  · obtain ⟨rfl, rfl⟩ := h.none h0
    obtain ⟨rfl, rfl⟩ := h'.none h0
    exact ⟨rfl, rfl, rfl⟩
  · have a := h.first (by omega) i' j' trivial h'.run
    have b := h'.first (by omega) i j trivial h.run
    refine ⟨?_, ?_, rfl⟩ <;> omega
theorem HeartOn.start {e : Int → Int → Bool} {alo blo : Int} {S : Int → Int → Nat → Prop} (hS : ∀ i j k, S i j k → Run e i j k → k = 0) : HeartOn S e alo blo alo blo 0 where
  run := fun t ht => by omega
  none := fun _ => ⟨rfl, rfl⟩
  mem := fun h => by omega
  max := fun i j k hs hr => by rw [hS i j k hs hr]; omega
  first := fun h => by omega
theorem HeartOn.wider {S S' : Int → Int → Nat → Prop} {e : Int → Int → Bool} {alo blo i j : Int} {k : Nat} (h : HeartOn S e alo blo i j k) (hS : ∀ i j k, 0 < k → S i j k → S' i j k) (hS' : ∀ i j k, 0 < k → S' i j k → Run e i j k → S i j k) : HeartOn S' e alo blo i j k where
  run := h.run
  none := h.none
  mem := fun hk => hS _ _ _ hk (h.mem hk)
  max := fun i' j' k' hs hr => by
    by_cases h0 : k' = 0
    · omega
    · exact h.max i' j' k' (hS' _ _ _ (by omega) hs hr) hr
  first := fun hk i' j' hs hr => h.first hk i' j' (hS' _ _ _ hk hs hr) hr
theorem HeartOn.step {S S' : Int → Int → Nat → Prop} {e : Int → Int → Bool} {alo blo bi bj ci cj : Int} {bk m : Nat} (h : HeartOn S e alo blo bi bj bk) (hr : Run e ci cj m) (hm : 0 < m → S' ci cj m) (hSS : ∀ i j k, 0 < k → S i j k → S' i j k)
    (hS' : ∀ i' j' k', 0 < k' → S' i' j' k' → Run e i' j' k' → S i' j' k' ∨ (k' ≤ m ∧ (k' = m → i' = ci ∧ j' = cj))) (hlex : 0 < bk → bk = m → S bi bj bk → bi < ci ∨ (bi = ci ∧ bj ≤ cj)) :
    (bk < m → HeartOn S' e alo blo ci cj m) ∧ (¬ bk < m → HeartOn S' e alo blo bi bj bk) := by
  refine ⟨fun hlt => ?_, fun hge => ?_⟩
  · refine ⟨hr, fun h0 => by omega, hm, fun i' j' k' hs hr' => ?_, fun _ i' j' hs hr' => ?_⟩
    · by_cases h0 : k' = 0
      · omega
      · rcases hS' i' j' k' (by omega) hs hr' with x | x
        · have := h.max i' j' k' x hr'; omega
        · exact x.1
    · rcases hS' i' j' m (by omega) hs hr' with x | x
      · have := h.max i' j' m x hr'; omega
      · obtain ⟨rfl, rfl⟩ := x.2 rfl; exact .inr ⟨rfl, Int.le_refl _⟩
  · refine ⟨h.run, h.none, fun hk => hSS _ _ _ hk (h.mem hk), fun i' j' k' hs hr' => ?_, fun hk i' j' hs hr' => ?_⟩
    · by_cases h0 : k' = 0
      · omega
      · rcases hS' i' j' k' (by omega) hs hr' with x | x
        · exact h.max i' j' k' x hr'
        · omega
    · rcases hS' i' j' bk hk hs hr' with x | x
      · exact h.first hk i' j' x hr'
      · have e1 : bk = m := by omega
        obtain ⟨rfl, rfl⟩ := x.2 e1
        exact hlex hk e1 (h.mem hk)
/-- the pairs of a window that may match -/
def eqW (A B : List Int) (q : Int → Bool) (alo ahi blo bhi i j : Int) : Bool := decide (alo ≤ i) && (decide (i < ahi) && (decide (blo ≤ j) && (decide (j < bhi) && ((it A i == it B j) && q (it B j)))))
theorem eqW_iff {A B : List Int} {q : Int → Bool} {alo ahi blo bhi i j : Int} : eqW A B q alo ahi blo bhi i j = true ↔ alo ≤ i ∧ i < ahi ∧ blo ≤ j ∧ j < bhi ∧ it A i = it B j ∧ q (it B j) = true := by
  unfold eqW; simp
/-! heaps that grow -/
def Pre (hp hp' : List AO) : Prop := hp.length ≤ hp'.length ∧ ∀ n, n < hp.length → hp'[n]? = hp[n]?
theorem Pre.refl (hp : List AO) : Pre hp hp := ⟨Nat.le_refl _, fun _ _ => rfl⟩
theorem Pre.trans {a b c : List AO} (x : Pre a b) (y : Pre b c) : Pre a c := ⟨Nat.le_trans x.1 y.1, fun n hn => (y.2 n (Nat.lt_of_lt_of_le hn x.1)).trans (x.2 n hn)⟩
theorem Pre.get {a b : List AO} (x : Pre a b) {n : Nat} {o : AO} (h : a[n]? = some o) : b[n]? = some o := by rw [x.2 n (List.getElem?_eq_some_iff.mp h).1]; exact h
theorem Pre.app {a b : List AO} (x : Pre a b) (o : List AO) : Pre a (b ++ o) := ⟨by rw [List.length_append]; have := x.1; omega, fun n hn => by rw [List.getElem?_append_left (Nat.lt_of_lt_of_le hn x.1)]; exact x.2 n hn⟩
theorem Pre.set {a b : List AO} (x : Pre a b) {n : Nat} (hn : a.length ≤ n) (o : AO) : Pre a (b.set n o) := ⟨by rw [List.length_set]; exact x.1, fun m hm => by rw [List.getElem?_set_ne (by omega)]; exact x.2 m hm⟩
section
variable {C : Cx}
/-! the attributes of a Match -/
theorem wp_get {d idx : Nat} {l : List AV} {v : AV} {P : AV → St → Prop} {σ : St} (hi : idxF (.ref d) = some (idx : Int)) (hl : l.length ≤ lim) (hv : l[idx]? = some v) : Wp (g_get C [.st (.ref d), .mat l, .st (.ref C.mC)]) P σ = P v σ := by
  refine wp_of ?_
  have key : Wp (g_get C [.st (.ref d), .mat l, .st (.ref C.mC)]) (fun r σ' => r = v ∧ σ' = σ) σ := by
    refine wp_fn (lc := [some (.st (.ref d)), some (.mat l), some (.st (.ref C.mC))]) rfl ?_
    unfold m_get
    have e1 : ∀ τ, isM (.mat l) .none τ = some (false, τ) := fun _ => rfl
    have e2 : ∀ τ, typM C [.mat l] τ = some (.st (.ref C.mC), τ) := fun _ => rfl
    have e3 : ∀ τ, subM' C [.st (.ref C.mC), .st (.type "tuple")] τ = some (.bool true, τ) := fun τ => by unfold subM'; simp
    have e4 : ∀ τ, truthM C (.bool true) τ = some (true, τ) := fun _ => rfl
    have e5 : ∀ τ, sattrM idxF (.st (.ref d)) τ = some (.int idx, τ) := fun τ => by unfold sattrM; dsimp only; rw [hi]; rfl
    have e6 : ∀ τ, tgetM [.mat l, .int idx] τ = some (v, τ) := fun τ => by
      unfold tgetM
      dsimp only
      rw [if_pos ⟨hl, by omega⟩]
      simp [hv]
    simp only [wp_bind, wp_pure, wp_ld, wp_st, wp_add, wp_iadd, wp_sub, wp_lt, wp_gt, wp_le, wp_ge, wp_eqI, wp_neI, wp_tup, wp_asCons, wp_asNil, wp_then, wp_thenR, wp_thenC, wp_thenB, List.getElem?_cons_zero, List.getElem?_cons_succ, List.set_cons_zero, List.set_cons_succ, wp_ite, wp_of (e1 _), wp_of (e2 _), wp_of (e3 _), wp_of (e4 _), wp_of (e5 _), wp_of (e6 _), Bool.false_eq_true, if_false, Bool.not_true, retOf]
    exact ⟨trivial, trivial⟩
  obtain ⟨a, σ', e, rfl, rfl⟩ := key
  exact e
theorem wp_mattr {d idx : Nat} {l : List AV} {i : Int} {P : AV → St → Prop} {σ : St} (hi : idxF (.ref d) = some (idx : Int)) (hl : l.length ≤ lim) (hv : l[idx]? = some (.int i)) : Wp (mattrM C (.ref d) (g_get C) (.mat l)) P σ = P (.int i) σ := by
  have h := wp_get (C := C) (P := fun r σ' => r = .int i ∧ σ' = σ) (σ := σ) hi hl hv
  have h2 : Wp (g_get C [.st (.ref d), .mat l, .st (.ref C.mC)]) (fun r σ' => r = .int i ∧ σ' = σ) σ := by rw [h]; exact ⟨rfl, rfl⟩
  obtain ⟨a, σ', e, rfl, rfl⟩ := h2
  refine wp_of ?_
  unfold mattrM
  simp only [e]
  rfl
theorem wp_plain {i j k : Int} {P : AV → St → Prop} {σ : St} : Wp (g__law_plain C [.mat [.int i, .int j, .int k]]) P σ = P (.tup [.int i, .int j, .int k]) σ := by
  refine wp_of ?_
  have key : Wp (g__law_plain C [.mat [.int i, .int j, .int k]]) (fun r σ' => r = .tup [.int i, .int j, .int k] ∧ σ' = σ) σ := by
    refine wp_fn (lc := [some (.mat [.int i, .int j, .int k])]) rfl ?_
    unfold m__law_plain
    have hl : ([.int i, .int j, .int k] : List AV).length ≤ lim := by simp [lim]
    simp only [wp_bind, wp_pure, wp_ld, wp_st, wp_add, wp_iadd, wp_sub, wp_lt, wp_gt, wp_le, wp_ge, wp_eqI, wp_neI, wp_tup, wp_asCons, wp_asNil, wp_then, wp_thenR, wp_thenC, wp_thenB, List.getElem?_cons_zero, List.getElem?_cons_succ, List.set_cons_zero, List.set_cons_succ, wp_mattr (d := dsc0) (idx := 0) rfl hl rfl, wp_mattr (d := dsc1) (idx := 1) rfl hl rfl, wp_mattr (d := dsc2) (idx := 2) rfl hl rfl, retOf]
    exact ⟨by simp, trivial, trivial⟩
  obtain ⟨a, σ', e, rfl, rfl⟩ := key
  exact e
end
end Mine

open PySem PySem.W PyProof.Rows
set_option Elab.async false
set_option maxRecDepth 100000
set_option maxHeartbeats 1000000
set_option linter.unusedVariables false
set_option linter.unusedSimpArgs false
namespace Mine
/-- the law's own table of places -/
structure PlacesR (D : List (Int × AV)) (B : List Int) (q : Int → Bool) : Prop where
  pl : ∀ x, ∃ ps : List Int, (getD D x).getD (.tup []) = .tup (ps.map .int) ∧ ps.length ≤ lim ∧ ps.Pairwise (· < ·) ∧ ∀ j, j ∈ ps ↔ (0 ≤ j ∧ j < B.length ∧ it B j = x ∧ q x = true)
  isIn : ∀ j : Int, 0 ≤ j → j < B.length → (getD D (it B j)).isSome = q (it B j)
section
variable {C : Cx} {A B : List Int} {q : Int → Bool} {D : List (Int × AV)} {ra rb rp : Nat} {hp : List AO} {x3 o11 o12 o13 : Option AV} {alo ahi blo bhi bi bj bk i j k : Int}
abbrev hSt (hp : List AO) (ra rb rp : Nat) (x3 : Option AV) (alo ahi blo bhi bi bj bk : Int) (o11 o12 o13 : Option AV) : St :=
  ⟨hp, [some (.ref ra), some (.ref rb), some (.ref rp), x3, some (.int alo), some (.int ahi), some (.int blo), some (.int bhi), some (.int bi), some (.int bj), some (.int bk), o11, o12, o13]⟩
theorem wp_dget {n : Nat} {x : Int} {d : AV} {D : List (Int × AV)} {P : AV → St → Prop} {hp : List AO} {lc : List (Option AV)} (h : hp[n]? = some (.dict D)) : Wp (dgetM [.ref n, .int x, d]) P ⟨hp, lc⟩ = P ((getD D x).getD d) ⟨hp, lc⟩ := wp_of (by unfold dgetM; simp only [h])
theorem wp_chk {T : String} {n : Nat} {o : AO} {P : Unit → St → Prop} {hp : List AO} {lc : List (Option AV)} (h : hp[n]? = some o) (hT : isTy T o = true) : Wp (chkM T (.ref n)) P ⟨hp, lc⟩ = P () ⟨hp, lc⟩ := wp_of (by unfold chkM; simp only [h, hT, if_true])
theorem wp_inD {n : Nat} {x : Int} {D : List (Int × AV)} {P : Bool → St → Prop} {hp : List AO} {lc : List (Option AV)} (h : hp[n]? = some (.dict D)) : Wp (inM (.int x) (.ref n)) P ⟨hp, lc⟩ = P ((getD D x).isSome) ⟨hp, lc⟩ := wp_of (by unfold inM; simp only [h])
theorem wp_iterT {l : List AV} {P : Src → St → Prop} {σ : St} : Wp (iterM (.tup l)) P σ = P (.fixed l) σ := wp_of rfl
theorem wp_range2 {a b : Int} {P : AV → St → Prop} {σ : St} : Wp (rangeM [.int a, .int b]) P σ = P (.rng a b) σ := wp_of rfl
theorem wp_iterR {a b : Int} {P : Src → St → Prop} {σ : St} (ha : 0 ≤ a) (ha' : a ≤ 1000000) (hb : 0 ≤ b) (hb' : b ≤ 1000000) : Wp (iterM (.rng a b)) P σ = P (.range a (b - a).toNat) σ := by
  refine wp_of ?_
  unfold iterM okI
  dsimp only
  rw [if_pos]
  simp; omega
theorem heart_cond (hA : hp[ra]? = some (.list (intsL A))) (hB : hp[rb]? = some (.list (intsL B))) (hD : hp[rp]? = some (.dict D)) (PR : PlacesR D B q) (lA : A.length ≤ lim) (lB : B.length ≤ lim) (a0 : 0 ≤ alo) (a1 : alo ≤ i) (a2 : ahi ≤ A.length) (b0 : 0 ≤ blo) (b1 : blo ≤ j) (b2 : bhi ≤ B.length) (k0 : 0 ≤ k) {P : Bool → St → Prop} :
    Wp (w__law_heart_b3 C) P (hSt hp ra rb rp x3 alo ahi blo bhi bi bj bk (some (.int i)) (some (.int j)) (some (.int k))) = P (eqW A B q alo ahi blo bhi (i + k) (j + k)) (hSt hp ra rb rp x3 alo ahi blo bhi bi bj bk (some (.int i)) (some (.int j)) (some (.int k))) := by
  unfold w__law_heart_b3 hSt eqW
  have d1 : alo ≤ i + k := by omega
  have d2 : blo ≤ j + k := by omega
  by_cases c1 : i + k < ahi
  · by_cases c2 : j + k < bhi
    · have e1 := item_run (σ := hSt hp ra rb rp x3 alo ahi blo bhi bi bj bk (some (.int i)) (some (.int j)) (some (.int k))) hA lA (show 0 ≤ i + k by omega) (by omega)
      have e2 := item_run (σ := hSt hp ra rb rp x3 alo ahi blo bhi bi bj bk (some (.int i)) (some (.int j)) (some (.int k))) hB lB (show 0 ≤ j + k by omega) (by omega)
      have e3 := PR.isIn (j + k) (by omega) (by omega)
      have e4 : inM (.int (it B (j + k))) (.ref rp) (hSt hp ra rb rp x3 alo ahi blo bhi bi bj bk (some (.int i)) (some (.int j)) (some (.int k))) = some (q (it B (j + k)), (hSt hp ra rb rp x3 alo ahi blo bhi bi bj bk (some (.int i)) (some (.int j)) (some (.int k)))) := by
        unfold inM hSt; simp only [hD, e3]
      unfold hSt at e1 e2 e4
      simp only [wp_bind, wp_pure, wp_ld, wp_st, wp_add, wp_iadd, wp_sub, wp_lt, wp_gt, wp_le, wp_ge, wp_eqI, wp_neI, wp_tup, wp_asCons, wp_asNil, wp_then, wp_thenR, wp_thenC, wp_thenB, List.getElem?_cons_zero, List.getElem?_cons_succ, List.set_cons_zero, List.set_cons_succ, wp_ite, c1, c2, d1, d2, decide_true, if_true, wp_of e1, wp_of e2, wp_of e4, Bool.true_and]
      cases it A (i + k) == it B (j + k)
      · simp
      · cases q (it B (j + k)) <;> simp
    · simp only [wp_bind, wp_pure, wp_ld, wp_st, wp_add, wp_iadd, wp_sub, wp_lt, wp_gt, wp_le, wp_ge, wp_eqI, wp_neI, wp_tup, wp_asCons, wp_asNil, wp_then, wp_thenR, wp_thenC, wp_thenB, List.getElem?_cons_zero, List.getElem?_cons_succ, List.set_cons_zero, List.set_cons_succ, wp_ite, c1, c2, decide_true, if_true, decide_false, Bool.false_eq_true, if_false, Bool.false_and, Bool.and_false]
  · simp only [wp_bind, wp_pure, wp_ld, wp_st, wp_add, wp_iadd, wp_sub, wp_lt, wp_gt, wp_le, wp_ge, wp_eqI, wp_neI, wp_tup, wp_asCons, wp_asNil, wp_then, wp_thenR, wp_thenC, wp_thenB, List.getElem?_cons_zero, List.getElem?_cons_succ, List.set_cons_zero, List.set_cons_succ, wp_ite, c1, decide_false, Bool.false_eq_true, if_false, Bool.false_and, Bool.and_false]
/-- the inner loop: how far a run goes on -/
theorem heart_while (hA : hp[ra]? = some (.list (intsL A))) (hB : hp[rb]? = some (.list (intsL B))) (hD : hp[rp]? = some (.dict D)) (PR : PlacesR D B q) (lA : A.length ≤ lim) (lB : B.length ≤ lim) (a0 : 0 ≤ alo) (a1 : alo ≤ i) (a2 : ahi ≤ A.length) (b0 : 0 ≤ blo) (b1 : blo ≤ j) (b2 : bhi ≤ B.length) {P : Fl → St → Prop}
    (h : ∀ m : Nat, Run (eqW A B q alo ahi blo bhi) i j m → eqW A B q alo ahi blo bhi (i + m) (j + m) = false → P .next (hSt hp ra rb rp x3 alo ahi blo bhi bi bj bk (some (.int i)) (some (.int j)) (some (.int m)))) :
    Wp (whileM fuel (w__law_heart_b3 C) (m__law_heart_b3 C)) P (hSt hp ra rb rp x3 alo ahi blo bhi bi bj bk (some (.int i)) (some (.int j)) (some (.int 0))) := by
  have hlim : lim = 1000000 := rfl
  have hfu : fuel = 2000000 := rfl
  refine wp_while (fun n σ' => ∃ t : Nat, σ' = hSt hp ra rb rp x3 alo ahi blo bhi bi bj bk (some (.int i)) (some (.int j)) (some (.int t)) ∧ n + t = (ahi - i).toNat + 1 ∧ Run (eqW A B q alo ahi blo bhi) i j t) ?_ ((ahi - i).toNat + 1) fuel _ (by rw [hfu]; omega) ⟨0, by simp, by simp, fun s hs => by omega⟩
  rintro n σ' ⟨t, rfl, hn, hall⟩
  rw [heart_cond hA hB hD PR lA lB a0 a1 a2 b0 b1 b2 (by omega)]
  cases hc : eqW A B q alo ahi blo bhi (i + t) (j + t) with
  | true =>
    have hc' := eqW_iff.mp hc
    simp only [if_true]
    unfold m__law_heart_b3 hSt
    simp only [wp_bind, wp_pure, wp_ld, wp_st, wp_add, wp_iadd, wp_sub, wp_lt, wp_gt, wp_le, wp_ge, wp_eqI, wp_neI, wp_tup, wp_asCons, wp_asNil, wp_then, wp_thenR, wp_thenC, wp_thenB, List.getElem?_cons_zero, List.getElem?_cons_succ, List.set_cons_zero, List.set_cons_succ]
    refine ⟨.inl trivial, (ahi - i).toNat + 1 - (t + 1), by omega, t + 1, ?_, by omega, fun s hs => ?_⟩
    · have e3 : ((t + 1 : Nat) : Int) = (t : Int) + 1 := by omega
      rw [e3]
    · by_cases hst : s = t
      · subst hst; exact hc
      · exact hall s (by omega)
  | false =>
    simp only [Bool.false_eq_true, if_false]
    exact h t hall hc
/-- the starts that were tried: all of earlier rows, in this row those in pre -/
def Tried (i : Int) (pre : List Int) (i' j' : Int) (_ : Nat) : Prop := i' < i ∨ (i' = i ∧ j' ∈ pre)
theorem heart_row (hA : hp[ra]? = some (.list (intsL A))) (hB : hp[rb]? = some (.list (intsL B))) (hD : hp[rp]? = some (.dict D)) (PR : PlacesR D B q) (lA : A.length ≤ lim) (lB : B.length ≤ lim) (a0 : 0 ≤ alo) (a1 : alo ≤ i) (a3 : i < ahi) (a2 : ahi ≤ A.length) (b0 : 0 ≤ blo) (b2 : bhi ≤ B.length)
    {bk : Nat} (HO : HeartOn (fun i' _ _ => i' < i) (eqW A B q alo ahi blo bhi) alo blo bi bj bk) :
    Wp (m__law_heart_b1 C) (fun f σ' => f = .next ∧ ∃ (bi' bj' : Int) (bk' : Nat) (o12' o13' : Option AV), σ' = hSt hp ra rb rp x3 alo ahi blo bhi bi' bj' bk' (some (.int i)) o12' o13' ∧ HeartOn (fun i' _ _ => i' < i + 1) (eqW A B q alo ahi blo bhi) alo blo bi' bj' bk') (hSt hp ra rb rp x3 alo ahi blo bhi bi bj bk (some (.int i)) o12 o13) := by
  have hlim : lim = 1000000 := rfl
  have hfu : fuel = 2000000 := rfl
  obtain ⟨ps, hps, hlen, hsort, hmem⟩ := PR.pl (it A i)
  unfold m__law_heart_b1 hSt
  have e1 := item_run (σ := hSt hp ra rb rp x3 alo ahi blo bhi bi bj bk (some (.int i)) o12 o13) hA lA (show 0 ≤ i by omega) (by omega)
  unfold hSt at e1
  simp only [wp_bind, wp_pure, wp_ld, wp_st, wp_add, wp_iadd, wp_sub, wp_lt, wp_gt, wp_le, wp_ge, wp_eqI, wp_neI, wp_tup, wp_asCons, wp_asNil, wp_then, wp_thenR, wp_thenC, wp_thenB, List.getElem?_cons_zero, List.getElem?_cons_succ, List.set_cons_zero, List.set_cons_succ, wp_chk (T := "dict") hD rfl, wp_of e1, wp_dget hD, hps, wp_iterT, List.length_nil]
  refine ⟨by omega, ?_⟩
  refine wp_for_fixed (fun r σ' => ∃ (pre rest : List Int) (bi' bj' : Int) (bk' : Nat) (o12' o13' : Option AV), r = rest.map .int ∧ ps = pre ++ rest ∧ σ' = hSt hp ra rb rp x3 alo ahi blo bhi bi' bj' bk' (some (.int i)) o12' o13' ∧ HeartOn (Tried i pre) (eqW A B q alo ahi blo bhi) alo blo bi' bj' bk') ?_ ?_ (ps.map .int) fuel _ (by rw [List.length_map, hfu]; omega)
    ⟨[], ps, bi, bj, bk, o12, o13, rfl, rfl, rfl, HO.wider (fun i j k _ h => .inl h) (fun i j k _ h _ => h.elim id (fun x => by simp at x))⟩
  · rintro a r σ' ⟨pre, rest, bi', bj', bk', o12', o13', hr, hpr, rfl, HO'⟩
    cases rest with
    | nil => simp at hr
    | cons j rest =>
      simp only [List.map_cons, List.cons.injEq] at hr
      obtain ⟨rfl, rfl⟩ := hr
      unfold hSt m__law_heart_b2
      have hjm : j ∈ ps := by rw [hpr]; simp
      obtain ⟨hj0, hj1, hj2, hj3⟩ := (hmem j).mp hjm
      have hpre : ∀ j' ∈ pre, j' < j := by
        intro j' hj'
        rw [hpr, List.pairwise_append] at hsort
        exact hsort.2.2 j' hj' j (by simp)
      have nxt : ∀ {i' j' : Int} {k' : Nat}, Tried i (pre ++ [j]) i' j' k' → Tried i pre i' j' k' ∨ (i' = i ∧ j' = j) := by
        rintro i' j' k' (x | ⟨x, y⟩)
        · exact .inl (.inl x)
        · rcases List.mem_append.mp y with y | y
          · exact .inl (.inr ⟨x, y⟩)
          · exact .inr ⟨x, by simpa using y⟩
      have inc : ∀ {i' j' : Int} {k' : Nat}, Tried i pre i' j' k' → Tried i (pre ++ [j]) i' j' k' := fun h => h.imp id fun x => ⟨x.1, List.mem_append_left _ x.2⟩
      have skip : eqW A B q alo ahi blo bhi i j = false → HeartOn (Tried i (pre ++ [j])) (eqW A B q alo ahi blo bhi) alo blo bi' bj' bk' := fun hf =>
        HO'.wider (fun _ _ _ _ h => inc h) (fun i' j' k' hk h hr => (nxt h).elim id (fun x => by
          have := hr 0 hk
          rw [x.1, x.2] at this
          simp only [Int.natCast_zero, Int.add_zero, hf] at this
          cases this))
      by_cases c1 : blo ≤ j
      · by_cases c2 : j < bhi
        · simp only [wp_bind, wp_pure, wp_ld, wp_st, wp_add, wp_iadd, wp_sub, wp_lt, wp_gt, wp_le, wp_ge, wp_eqI, wp_neI, wp_tup, wp_asCons, wp_asNil, wp_then, wp_thenR, wp_thenC, wp_thenB, List.getElem?_cons_zero, List.getElem?_cons_succ, List.set_cons_zero, List.set_cons_succ, wp_ite, c1, c2, decide_true, if_true]
          refine heart_while (C := C) (i := i) (j := j) (bi := bi') (bj := bj') (bk := bk') hA hB hD PR lA lB a0 a1 a2 b0 c1 b2 fun m hrun hstop => ?_
          unfold hSt
          simp only [wp_bind, wp_pure, wp_ld, wp_st, wp_add, wp_iadd, wp_sub, wp_lt, wp_gt, wp_le, wp_ge, wp_eqI, wp_neI, wp_tup, wp_asCons, wp_asNil, wp_then, wp_thenR, wp_thenC, wp_thenB, List.getElem?_cons_zero, List.getElem?_cons_succ, List.set_cons_zero, List.set_cons_succ, wp_ite]
          have hst := HO'.step (S' := Tried i (pre ++ [j])) (ci := i) (cj := j) (m := m) hrun (fun _ => .inr ⟨rfl, by simp⟩) (fun _ _ _ _ h => inc h) (fun i' j' k' hk h hr => by
            rcases nxt h with x | ⟨rfl, rfl⟩
            · exact .inl x
            · refine .inr ⟨?_, fun _ => ⟨rfl, rfl⟩⟩
              by_cases hmk : k' ≤ m
              · exact hmk
              · have := hr m (by omega); rw [hstop] at this; cases this) (fun h0 _ hS => by
            rcases hS with x | ⟨rfl, x⟩
            · exact .inl x
            · exact .inr ⟨rfl, Int.le_of_lt (hpre _ x)⟩)
          by_cases c3 : (bk' : Int) < m
          · simp only [c3, decide_true, if_true, wp_bind, wp_pure, wp_ld, wp_st, wp_add, wp_iadd, wp_sub, wp_lt, wp_gt, wp_le, wp_ge, wp_eqI, wp_neI, wp_tup, wp_asCons, wp_asNil, wp_then, wp_thenR, wp_thenC, wp_thenB, List.getElem?_cons_zero, List.getElem?_cons_succ, List.set_cons_zero, List.set_cons_succ, wp_sw (n := 3) (l := [_, _, _]) rfl, List.reverse_cons, List.reverse_nil, List.nil_append, List.cons_append, List.length_cons, List.length_nil]
            exact ⟨by omega, .inl ⟨.inl trivial, pre ++ [j], rest, i, j, m, _, _, rfl, by rw [hpr]; simp, rfl, hst.1 (by omega)⟩⟩
          · simp only [c3, decide_false, Bool.false_eq_true, if_false, wp_bind, wp_pure, wp_ld, wp_st, wp_add, wp_iadd, wp_sub, wp_lt, wp_gt, wp_le, wp_ge, wp_eqI, wp_neI, wp_tup, wp_asCons, wp_asNil, wp_then, wp_thenR, wp_thenC, wp_thenB, List.getElem?_cons_zero, List.getElem?_cons_succ, List.set_cons_zero, List.set_cons_succ]
            exact .inl ⟨.inl trivial, pre ++ [j], rest, bi', bj', bk', _, _, rfl, by rw [hpr]; simp, rfl, hst.2 (by omega)⟩
        · have hf : eqW A B q alo ahi blo bhi i j = false := by
            cases e : eqW A B q alo ahi blo bhi i j with
            | false => rfl
            | true => exact absurd (eqW_iff.mp e).2.2.2.1 c2
          simp only [wp_bind, wp_pure, wp_ld, wp_st, wp_add, wp_iadd, wp_sub, wp_lt, wp_gt, wp_le, wp_ge, wp_eqI, wp_neI, wp_tup, wp_asCons, wp_asNil, wp_then, wp_thenR, wp_thenC, wp_thenB, List.getElem?_cons_zero, List.getElem?_cons_succ, List.set_cons_zero, List.set_cons_succ, wp_ite, c1, c2, decide_true, decide_false, Bool.false_eq_true, if_true, if_false]
          exact .inl ⟨.inl trivial, pre ++ [j], rest, bi', bj', bk', _, _, rfl, by rw [hpr]; simp, rfl, skip hf⟩
      · have hf : eqW A B q alo ahi blo bhi i j = false := by
          cases e : eqW A B q alo ahi blo bhi i j with
          | false => rfl
          | true => exact absurd (eqW_iff.mp e).2.2.1 c1
        simp only [wp_bind, wp_pure, wp_ld, wp_st, wp_add, wp_iadd, wp_sub, wp_lt, wp_gt, wp_le, wp_ge, wp_eqI, wp_neI, wp_tup, wp_asCons, wp_asNil, wp_then, wp_thenR, wp_thenC, wp_thenB, List.getElem?_cons_zero, List.getElem?_cons_succ, List.set_cons_zero, List.set_cons_succ, wp_ite, c1, decide_false, Bool.false_eq_true, if_false]
        exact .inl ⟨.inl trivial, pre ++ [j], rest, bi', bj', bk', _, _, rfl, by rw [hpr]; simp, rfl, skip hf⟩
  · rintro σ' ⟨pre, rest, bi', bj', bk', o12', o13', hr, hpr, rfl, HO'⟩
    have hrest : rest = [] := by cases rest with | nil => rfl | cons _ _ => simp at hr
    subst hrest
    rw [List.append_nil] at hpr
    subst hpr
    simp only [wp_bind, wp_pure, wp_ld, wp_st, wp_add, wp_iadd, wp_sub, wp_lt, wp_gt, wp_le, wp_ge, wp_eqI, wp_neI, wp_tup, wp_asCons, wp_asNil, wp_then, wp_thenR, wp_thenC, wp_thenB, List.getElem?_cons_zero, List.getElem?_cons_succ, List.set_cons_zero, List.set_cons_succ]
    refine ⟨trivial, bi', bj', bk', o12', o13', rfl, HO'.wider (fun i' j' k' _ h => by rcases h with x | x <;> omega) (fun i' j' k' hk h hr => ?_)⟩
    by_cases e : i' < i
    · exact .inl e
    · have e1 : i' = i := by omega
      subst e1
      have := hr 0 hk
      simp only [Int.natCast_zero, Int.add_zero] at this
      have h' := eqW_iff.mp this
      exact .inr ⟨rfl, (hmem j').mpr ⟨by omega, by omega, h'.2.2.2.2.1.symm, by rw [h'.2.2.2.2.1]; exact h'.2.2.2.2.2⟩⟩
theorem wp_heart {σ : St} (hA : σ.hp[ra]? = some (.list (intsL A))) (hB : σ.hp[rb]? = some (.list (intsL B))) (hD : σ.hp[rp]? = some (.dict D)) (PR : PlacesR D B q) (lA : A.length ≤ lim) (lB : B.length ≤ lim) (a0 : 0 ≤ alo) (a1 : alo ≤ ahi) (a2 : ahi ≤ A.length) (b0 : 0 ≤ blo) (b2 : bhi ≤ B.length) :
    Wp (g__law_heart C [.ref ra, .ref rb, .ref rp, .tup [.int alo, .int ahi, .int blo, .int bhi]]) (fun r σ' => σ' = σ ∧ ∃ (i j : Int) (k : Nat), r = .tup [.int i, .int j, .int k] ∧ Heart (eqW A B q alo ahi blo bhi) alo blo i j k) σ := by
  have hlim : lim = 1000000 := rfl
  have hfu : fuel = 2000000 := rfl
  obtain ⟨hp, slc⟩ := σ
  dsimp only at hA hB hD
  refine wp_fn (lc := [some (.ref ra), some (.ref rb), some (.ref rp), some (.tup [.int alo, .int ahi, .int blo, .int bhi]), none, none, none, none, none, none, none, none, none, none]) rfl ?_
  unfold m__law_heart
  simp only [wp_bind, wp_pure, wp_ld, wp_st, wp_add, wp_iadd, wp_sub, wp_lt, wp_gt, wp_le, wp_ge, wp_eqI, wp_neI, wp_tup, wp_asCons, wp_asNil, wp_then, wp_thenR, wp_thenC, wp_thenB, List.getElem?_cons_zero, List.getElem?_cons_succ, List.set_cons_zero, List.set_cons_succ, wp_unp (n := 4) (l := [_, _, _, _]) rfl, wp_sw (n := 3) (l := [_, _, _]) rfl, List.reverse_cons, List.reverse_nil, List.nil_append, List.cons_append, List.length_cons, List.length_nil, wp_range2, wp_iterR (a := alo) (b := ahi) a0 (by omega) (by omega) (by omega)]
  refine ⟨by omega, ?_⟩
  have key := wp_for_range (st := stM 11) (b := m__law_heart_b1 C) (P := fun f σ' => Wp (thenM f (do let f ← (do let a ← (do let l ← (do let a ← (ldM 8); let l ← (do let a ← (ldM 9); let l ← (do let a ← (ldM 10); let l ← (pure []); pure (a :: l)); pure (a :: l)); pure (a :: l)); tupM l); pure (.ret a)); thenM f (pure .next))) (fun f σ' => (({ hp := σ'.hp, lc := slc } : St) = { hp := hp, lc := slc }) ∧ ∃ (i j : Int) (k : Nat), retOf f = .tup [.int i, .int j, .int k] ∧ Heart (eqW A B q alo ahi blo bhi) alo blo i j k) σ')
    (fun n σ' => ∃ (bi bj : Int) (bk : Nat) (o11 o12 o13 : Option AV), σ' = hSt hp ra rb rp (some (.tup [.int alo, .int ahi, .int blo, .int bhi])) alo ahi blo bhi bi bj bk o11 o12 o13 ∧ HeartOn (fun i' _ _ => i' < alo + n) (eqW A B q alo ahi blo bhi) alo blo bi bj bk) alo (ahi - alo).toNat ?_ ?_ (ahi - alo).toNat 0 fuel
    (hSt hp ra rb rp (some (.tup [.int alo, .int ahi, .int blo, .int bhi])) alo ahi blo bhi alo blo (0 : Nat) none none none) (by omega) (by rw [hfu]; omega) ⟨alo, blo, 0, none, none, none, rfl, HeartOn.start (fun i j k hS hr => by
      by_cases hk : k = 0
      · exact hk
      · have := eqW_iff.mp (hr 0 (by omega)); simp at this hS; omega)⟩
  · simpa [hSt] using key
  · rintro n hn σ' ⟨bi, bj, bk, o11, o12, o13, rfl, HO⟩
    unfold hSt
    rw [wp_st]
    simp only [List.set_cons_zero, List.set_cons_succ]
    refine wp_mono (heart_row (C := C) (i := alo + n) (o12 := o12) (o13 := o13) hA hB hD PR lA lB a0 (by omega) (by omega) a2 b0 b2 HO) fun f σ₂ h => ?_
    obtain ⟨rfl, bi', bj', bk', o12', o13', rfl, HO'⟩ := h
    exact ⟨.inl rfl, bi', bj', bk', _, _, _, rfl, by
      have e : alo + ((n + 1 : Nat) : Int) = alo + n + 1 := by omega
      rw [e]; exact HO'⟩
  · rintro σ' ⟨bi, bj, bk, o11, o12, o13, rfl, HO⟩
    unfold hSt
    simp only [wp_bind, wp_pure, wp_ld, wp_st, wp_add, wp_iadd, wp_sub, wp_lt, wp_gt, wp_le, wp_ge, wp_eqI, wp_neI, wp_tup, wp_asCons, wp_asNil, wp_then, wp_thenR, wp_thenC, wp_thenB, List.getElem?_cons_zero, List.getElem?_cons_succ, List.set_cons_zero, List.set_cons_succ, retOf]
    refine ⟨by simp, trivial, bi, bj, bk, rfl, HO.wider (fun _ _ _ _ _ => trivial) (fun i' j' k' hk _ hr => ?_)⟩
    have := eqW_iff.mp (hr 0 hk)
    simp at this ⊢
    omega
end
end Mine

open PySem PySem.W PyProof.Rows
set_option Elab.async false
set_option maxRecDepth 100000
set_option maxHeartbeats 1000000
set_option linter.unusedVariables false
set_option linter.unusedSimpArgs false
namespace Mine
theorem getD_putD {l : List (Int × AV)} {k k' : Int} {v : AV} : getD (putD l k v) k' = if k' = k then some v else getD l k' := by
  unfold putD getD
  split
  · rename_i h
    induction l with
    | nil => simp at h
    | cons a l ih =>
      simp only [List.map_cons, List.find?_cons]
      by_cases e : a.1 = k
      · by_cases e' : k' = k
        · subst e'; simp [e]
        · have e2 : ¬ a.1 = k' := by omega
          have e3 : ¬ k = k' := by omega
          simp only [e, if_true, e3, e2, decide_false, e', if_false]
          by_cases hl : l.any (fun kv => decide (kv.1 = k)) = true
          · rw [ih hl]; simp [e']
          · have : l.map (fun kv => if kv.1 = k then (kv.1, v) else kv) = l := by
              refine (List.map_congr_left (g := id) fun x hx => ?_).trans (List.map_id _)
              have : ¬ x.1 = k := fun hh => hl (List.any_eq_true.mpr ⟨x, hx, by simpa using hh⟩)
              simp [this]
            rw [this]
      · simp only [e, if_false]
        have hl : l.any (fun kv => decide (kv.1 = k)) = true := by simpa [e] using h
        by_cases e2 : a.1 = k'
        · have e3 : ¬ k' = k := by omega
          simp [e2, e3]
        · simp only [e2, decide_false]
          exact ih hl
  · rename_i h
    have hn : ∀ x ∈ l, ¬ x.1 = k := fun x hx hh => h (List.any_eq_true.mpr ⟨x, hx, by simpa using hh⟩)
    rw [List.find?_append]
    by_cases e' : k' = k
    · subst e'
      have : l.find? (fun kv => decide (kv.1 = k')) = none := List.find?_eq_none.mpr fun x hx => by simpa using hn x hx
      simp [this]
    · have e3 : ¬ k = k' := by omega
      simp [e', e3]
theorem putD_length {l : List (Int × AV)} {k : Int} {v : AV} : (putD l k v).length ≤ l.length + 1 := by
  unfold putD; split <;> simp
theorem set_last {l : List AO} {x y : AO} : (l ++ [x]).set l.length y = l ++ [y] := by simp
theorem get_last {l : List AO} {x : AO} : (l ++ [x])[l.length]? = some x := by simp
theorem wp_bm {T id : String} {n : Nat} {o : AO} {P : AV → St → Prop} {hp : List AO} {lc : List (Option AV)} (h : hp[n]? = some o) (hT : isTy T o = true) : Wp (bmM T id (.ref n)) P ⟨hp, lc⟩ = P (.bm n id) ⟨hp, lc⟩ := wp_of (by unfold bmM; simp only [h, hT, if_true])
theorem wp_bmget {F : Value → Option (List AV → M AV)} {n : Nat} {x : Int} {d : AV} {D : List (Int × AV)} {P : AV → St → Prop} {hp : List AO} {lc : List (Option AV)} (h : hp[n]? = some (.dict D)) : Wp (appM F (.bm n "dict.get") [.int x, d]) P ⟨hp, lc⟩ = P ((getD D x).getD d) ⟨hp, lc⟩ := by
  have e : appM F (.bm n "dict.get") [.int x, d] = dgetM [.ref n, .int x, d] := by unfold appM; dsimp only; rw [if_pos rfl]
  rw [e, wp_dget h]
theorem wp_bmcont {F : Value → Option (List AV → M AV)} {n : Nat} {x : Int} {J : List Int} {P : AV → St → Prop} {hp : List AO} {lc : List (Option AV)} (h : hp[n]? = some (.set J)) : Wp (appM F (.bm n "set.__contains__") [.int x]) P ⟨hp, lc⟩ = P (.bool (decide (x ∈ J))) ⟨hp, lc⟩ := by
  have e : appM F (.bm n "set.__contains__") [.int x] = scontM [.ref n, .int x] := by unfold appM; dsimp only; rw [if_neg (by decide), if_pos rfl]
  rw [e]
  refine wp_of ?_
  unfold scontM; simp only [h]
theorem wp_truB {b : Bool} {P : Bool → St → Prop} {σ : St} {C : Cx} : Wp (truthM C (.bool b)) P σ = P b σ := wp_of rfl
theorem wp_setD {n : Nat} {x : Int} {v : AV} {D : List (Int × AV)} {P : Unit → St → Prop} {hp : List AO} {lc : List (Option AV)} (h : hp[n]? = some (.dict D)) (hl : D.length ≤ lim) : Wp (setItemM (.ref n) (.int x) v) P ⟨hp, lc⟩ = P () ⟨hp.set n (.dict (putD D x v)), lc⟩ := wp_of (by unfold setItemM; simp only [h]; rw [if_pos hl])
theorem wp_iterL {n : Nat} {l : List AV} {P : Src → St → Prop} {hp : List AO} {lc : List (Option AV)} (h : hp[n]? = some (.list l)) : Wp (iterM (.ref n)) P ⟨hp, lc⟩ = P (.list n 0) ⟨hp, lc⟩ := wp_of (by unfold iterM; simp only [h])
theorem wp_lenL {n : Nat} {l : List AV} {P : AV → St → Prop} {hp : List AO} {lc : List (Option AV)} (h : hp[n]? = some (.list l)) (hl : l.length ≤ 1000000) : Wp (lenM [.ref n]) P ⟨hp, lc⟩ = P (.int l.length) ⟨hp, lc⟩ := wp_of (by unfold lenM; simp only [h]; rw [if_pos hl])
theorem wp_itemL {n : Nat} {i : Int} {A : List Int} {P : AV → St → Prop} {hp : List AO} {lc : List (Option AV)} (h : hp[n]? = some (.list (intsL A))) (hl : A.length ≤ lim) (h0 : 0 ≤ i) (h1 : i < A.length) : Wp (itemM (.ref n) (.int i)) P ⟨hp, lc⟩ = P (.int (it A i)) ⟨hp, lc⟩ := wp_item h hl h0 h1
/-! the backward length -/
def BL (e : Int → Int → Bool) (i j : Int) (m : Nat) : Prop := Run e (i - m + 1) (j - m + 1) m ∧ e (i - m) (j - m) = false
def RowD (e : Int → Int → Bool) (i : Int) (D : List (Int × AV)) : Prop := ∀ j, (e i j = true → ∃ m : Nat, getD D j = some (.int m) ∧ BL e i j m) ∧ (e i j = false → getD D j = none)
theorem BL.one {e : Int → Int → Bool} {i j : Int} (h : e i j = true) (h' : e (i - 1) (j - 1) = false) : BL e i j 1 := by
  refine ⟨fun t ht => ?_, h'⟩
  have : t = 0 := by omega
  subst this
  have e1 : i - ((1 : Nat) : Int) + 1 + ((0 : Nat) : Int) = i := by omega
  have e2 : j - ((1 : Nat) : Int) + 1 + ((0 : Nat) : Int) = j := by omega
  rw [e1, e2]; exact h
theorem BL.succ {e : Int → Int → Bool} {i j : Int} {m : Nat} (h : e i j = true) (h' : BL e (i - 1) (j - 1) m) : BL e i j (m + 1) := by
  refine ⟨fun t ht => ?_, ?_⟩
  · by_cases ht' : t < m
    · have := h'.1 t ht'
      have e1 : i - ((m + 1 : Nat) : Int) + 1 + t = i - 1 - m + 1 + t := by omega
      have e2 : j - ((m + 1 : Nat) : Int) + 1 + t = j - 1 - m + 1 + t := by omega
      rw [e1, e2]; exact this
    · have e1 : i - ((m + 1 : Nat) : Int) + 1 + t = i := by omega
      have e2 : j - ((m + 1 : Nat) : Int) + 1 + t = j := by omega
      rw [e1, e2]; exact h
  · have e1 : i - ((m + 1 : Nat) : Int) = i - 1 - m := by omega
    have e2 : j - ((m + 1 : Nat) : Int) = j - 1 - m := by omega
    rw [e1, e2]; exact h'.2
theorem RowD.k {e : Int → Int → Bool} {i j : Int} {D : List (Int × AV)} (R : RowD e (i - 1) D) (h : e i j = true) : ∃ v : Nat, (getD D (j - 1)).getD (.int 0) = .int v ∧ BL e i j (v + 1) := by
  cases h' : e (i - 1) (j - 1) with
  | true =>
    obtain ⟨m, hm, hb⟩ := (R (j - 1)).1 h'
    exact ⟨m, by rw [hm]; rfl, hb.succ h⟩
  | false => exact ⟨0, by rw [(R (j - 1)).2 h']; rfl, BL.one h h'⟩
def RowN (e : Int → Int → Bool) (i : Int) (pre : List Int) (D : List (Int × AV)) : Prop := ∀ j, (j ∈ pre → e i j = true → ∃ m : Nat, getD D j = some (.int m) ∧ BL e i j m) ∧ ((j ∈ pre → e i j = false) → getD D j = none)
def Ended (i : Int) (pre : List Int) (i' j' : Int) (k' : Nat) : Prop := i' + k' - 1 < i ∨ (i' + k' - 1 = i ∧ j' + k' - 1 ∈ pre)
theorem ended_step {e : Int → Int → Bool} {i j alo blo bi bj : Int} {bk m : Nat} {pre : List Int} (HO : HeartOn (Ended i pre) e alo blo bi bj bk) (hb : BL e i j m) (hm : 0 < m) (hpre : ∀ j' ∈ pre, j' < j) :
    (bk < m → HeartOn (Ended i (pre ++ [j])) e alo blo (i - m + 1) (j - m + 1) m) ∧ (¬ bk < m → HeartOn (Ended i (pre ++ [j])) e alo blo bi bj bk) := by
  refine HO.step hb.1 (fun _ => .inr ⟨by omega, ?_⟩) (fun i' j' k' _ h => h.imp id fun x => ⟨x.1, List.mem_append_left _ x.2⟩) (fun i' j' k' hk h hr => ?_) (fun h0 hbm hS => ?_)
  · have : j - (m : Int) + 1 + m - 1 = j := by omega
    rw [this]; simp
  · rcases h with x | ⟨x, y⟩
    · exact .inl (.inl x)
    · rcases List.mem_append.mp y with y | y
      · exact .inl (.inr ⟨x, y⟩)
      · have y' : j' + k' - 1 = j := by simpa using y
        refine .inr ⟨?_, fun hkm => ⟨by omega, by omega⟩⟩
        by_cases hkm : k' ≤ m
        · exact hkm
        · exfalso
          have := hr (k' - 1 - m) (by omega)
          have e1 : i' + ((k' - 1 - m : Nat) : Int) = i - m := by omega
          have e2 : j' + ((k' - 1 - m : Nat) : Int) = j - m := by omega
          rw [e1, e2, hb.2] at this
          cases this
  · rcases hS with x | ⟨x, y⟩
    · left; omega
    · have := hpre _ y
      by_cases hx : bi < i - m + 1
      · exact .inl hx
      · exact .inr ⟨by omega, by omega⟩
/-! what a matcher's heap holds -/
structure FH (hp : List AO) (me ra rb rd rj : Nat) (A B : List Int) (q : Int → Bool) (J : List Int) (D : List (Int × AV)) : Prop where
  hS : ∃ l, hp[me]? = some (.inst l) ∧ l[1]? = some (some (.ref ra)) ∧ l[2]? = some (some (.ref rb)) ∧ l[7]? = some (some (.ref rd)) ∧ l[8]? = some (some (.ref rj))
  hA : hp[ra]? = some (.list (intsL A))
  hB : hp[rb]? = some (.list (intsL B))
  hD : hp[rd]? = some (.dict D)
  hJ : hp[rj]? = some (.set J)
  lA : A.length ≤ 100000
  lB : B.length ≤ 100000
  at_ : ∀ x, (∃ p ps, getD D x = some (.ref p) ∧ hp[p]? = some (.list (intsL ps)) ∧ ps.length ≤ 100000 ∧ ps.Pairwise (· < ·) ∧ ∀ j, j ∈ ps ↔ (0 ≤ j ∧ j < B.length ∧ it B j = x ∧ q x = true)) ∨ (getD D x = none ∧ ∀ j : Int, 0 ≤ j → j < B.length → it B j = x → q x = false)
theorem FH.pre {hp hp' : List AO} {me ra rb rd rj : Nat} {A B : List Int} {q : Int → Bool} {J : List Int} {D : List (Int × AV)} (F : FH hp me ra rb rd rj A B q J D) (p : Pre hp hp') : FH hp' me ra rb rd rj A B q J D where
  hS := let ⟨l, h, x⟩ := F.hS; ⟨l, p.get h, x⟩
  hA := p.get F.hA
  hB := p.get F.hB
  hD := p.get F.hD
  hJ := p.get F.hJ
  lA := F.lA
  lB := F.lB
  at_ := fun x => (F.at_ x).imp (fun ⟨a, ps, h1, h2, h3⟩ => ⟨a, ps, h1, p.get h2, h3⟩) id
theorem FH.find {hp : List AO} {me ra rb rd rj : Nat} {A B : List Int} {q : Int → Bool} {J : List Int} {D : List (Int × AV)} (F : FH hp me ra rb rd rj A B q J D) {rn : Nat} (hn : hp[rn]? = some (.list [])) (x : Int) :
    ∃ p ps, (getD D x).getD (.ref rn) = .ref p ∧ hp[p]? = some (.list (intsL ps)) ∧ ps.length ≤ 100000 ∧ ps.Pairwise (· < ·) ∧ ∀ j, j ∈ ps ↔ (0 ≤ j ∧ j < B.length ∧ it B j = x ∧ q x = true) := by
  rcases F.at_ x with ⟨p, ps, h1, h⟩ | ⟨h1, h2⟩
  · exact ⟨p, ps, by rw [h1]; rfl, h⟩
  · refine ⟨rn, [], by rw [h1]; rfl, hn, by simp, .nil, fun j => ⟨fun h => by simp at h, fun ⟨a, b, c, d⟩ => ?_⟩⟩
    rw [h2 j a b c] at d; cases d
section
variable {C : Cx} {A B J : List Int} {q : Int → Bool} {D : List (Int × AV)} {me ra rb rd rj rn rl : Nat} {hp : List AO} {o14 o15 o16 o17 o18 : Option AV} {alo ahi blo bhi bi bj i j k : Int} {bk : Nat}
abbrev fSt (hp : List AO) (me ra rb rd rj : Nat) (alo ahi blo bhi bi bj bk : Int) (rl rn : Nat) (o14 o15 o16 o17 o18 : Option AV) : St :=
  ⟨hp, [some (.ref me), some (.int alo), some (.int ahi), some (.int blo), some (.int bhi), some (.ref ra), some (.ref rb), some (.ref rd), some (.bm rj "set.__contains__"), some (.int bi), some (.int bj), some (.int bk), some (.ref rl), some (.ref rn), o14, o15, o16, o17, o18]⟩
theorem dp_row (F : FH hp me ra rb rd rj A B q J D) (hn : hp[rn]? = some (.list [])) {Dl : List (Int × AV)} (hl : hp[rl]? = some (.dict Dl)) (RD : RowD (eqW A B q alo ahi blo bhi) (i - 1) Dl) (a0 : 0 ≤ alo) (a1 : alo ≤ i) (a3 : i < ahi) (a2 : ahi ≤ A.length) (b0 : 0 ≤ blo) (b2 : bhi ≤ B.length)
    (HO : HeartOn (fun i' _ k' => i' + k' - 1 < i) (eqW A B q alo ahi blo bhi) alo blo bi bj bk) :
    Wp (m_find_longest_match_b1 C) (fun f σ' => f = .next ∧ ∃ (N : List (Int × AV)) (bi' bj' : Int) (bk' : Nat) (o15' o16' o17' o18' : Option AV), σ' = fSt (hp ++ [.dict N]) me ra rb rd rj alo ahi blo bhi bi' bj' bk' hp.length rn (some (.int i)) o15' o16' o17' o18' ∧ RowD (eqW A B q alo ahi blo bhi) i N ∧ HeartOn (fun i' _ k' => i' + k' - 1 < i + 1) (eqW A B q alo ahi blo bhi) alo blo bi' bj' bk')
      (fSt hp me ra rb rd rj alo ahi blo bhi bi bj bk rl rn (some (.int i)) o15 o16 o17 o18) := by
  have hlim : lim = 1000000 := rfl
  have hfu : fuel = 2000000 := rfl
  have lA := F.lA
  have lB := F.lB
  obtain ⟨p, ps, hps, hpl, hlen, hsort, hmem⟩ := F.find hn (it A i)
  have pa : ∀ N : List (Int × AV), Pre hp (hp ++ [.dict N]) := fun N => (Pre.refl hp).app _
  unfold m_find_longest_match_b1 fSt
  simp only [wp_bind, wp_pure, wp_ld, wp_st, wp_add, wp_iadd, wp_sub, wp_lt, wp_gt, wp_le, wp_ge, wp_eqI, wp_neI, wp_tup, wp_asCons, wp_asNil, wp_then, wp_thenR, wp_thenC, wp_thenB, List.getElem?_cons_zero, List.getElem?_cons_succ, List.set_cons_zero, List.set_cons_succ, wp_bm (T := "dict") hl rfl, wp_alloc, wp_chk (T := "dict") ((pa []).get F.hD) rfl, wp_itemL ((pa []).get F.hA) (show A.length ≤ lim by omega) (show 0 ≤ i by omega) (show i < A.length by omega), wp_dget ((pa []).get F.hD), hps, wp_iterL ((pa []).get hpl)]
  refine wp_for_list (fun idx σ' => ∃ (N : List (Int × AV)) (bi' bj' : Int) (bk' : Nat) (o17' o18' : Option AV), σ' = fSt (hp ++ [.dict N]) me ra rb rd rj alo ahi blo bhi bi' bj' bk' rl rn (some (.int i)) (some (.bm rl "dict.get")) (some (.ref hp.length)) o17' o18' ∧ N.length ≤ idx ∧ RowN (eqW A B q alo ahi blo bhi) i (ps.take idx) N ∧ HeartOn (Ended i (ps.take idx)) (eqW A B q alo ahi blo bhi) alo blo bi' bj' bk')
    p (intsL ps) ?_ ?_ ?_ (intsL ps).length 0 fuel _ (by simp) (by unfold intsL; rw [List.length_map, hfu]; omega)
    ⟨[], bi, bj, bk, o17, o18, rfl, by simp, fun j => ⟨fun h => by simp at h, fun _ => rfl⟩, HO.wider (fun i j k _ h => .inl h) (fun i j k _ h _ => h.elim id (fun x => by simp at x))⟩
  · rintro idx σ' ⟨N, bi', bj', bk', o17', o18', rfl, _⟩
    exact (pa N).get hpl
  · rintro idx hi σ' ⟨N, bi', bj', bk', o17', o18', rfl, hN, RN, HO'⟩
    have hi' : idx < ps.length := by unfold intsL at hi; rwa [List.length_map] at hi
    have hg : (intsL ps)[idx] = .int ps[idx] := List.getElem_map (AV.int)
    have htk : ps.take (idx + 1) = ps.take idx ++ [ps[idx]] := by simp
    rw [hg, htk]
    have hjm : ps[idx] ∈ ps := List.getElem_mem hi'
    obtain ⟨hj0, hj1, hj2, hj3⟩ := (hmem ps[idx]).mp hjm
    have hpre : ∀ j' ∈ ps.take idx, j' < ps[idx] := by
      have := hsort
      rw [← List.take_append_drop (idx + 1) ps, htk] at this
      have := (List.pairwise_append.mp (List.pairwise_append.mp this).1).2.2
      exact fun j' hj' => this j' hj' _ (by simp)
    have hpost : ∀ j' ∈ ps, j' ∉ ps.take idx → ps[idx] ≤ j' := by
      intro j' hj' hnt
      rw [← List.take_append_drop idx ps] at hj'
      rcases List.mem_append.mp hj' with x | x
      · exact absurd x hnt
      · rw [List.drop_eq_getElem_cons hi'] at x
        rcases List.mem_cons.mp x with x | x
        · omega
        · have := hsort
          rw [← List.take_append_drop idx ps, List.drop_eq_getElem_cons hi'] at this
          have := (List.pairwise_cons.mp (List.pairwise_append.mp this).2.1).1 j' x
          omega
    generalize hj : ps[idx] = j at *
    unfold fSt m_find_longest_match_b2
    have skip : eqW A B q alo ahi blo bhi i j = false → RowN (eqW A B q alo ahi blo bhi) i (ps.take idx ++ [j]) N ∧ HeartOn (Ended i (ps.take idx ++ [j])) (eqW A B q alo ahi blo bhi) alo blo bi' bj' bk' := fun hf => by
      refine ⟨fun j' => ⟨fun h he => ?_, fun h => ?_⟩, HO'.wider (fun _ _ _ _ h => h.imp id fun x => ⟨x.1, List.mem_append_left _ x.2⟩) (fun i' j' k' hk h hr => ?_)⟩
      · rcases List.mem_append.mp h with h | h
        · exact (RN j').1 h he
        · have : j' = j := by simpa using h
          rw [this, hf] at he; cases he
      · exact (RN j').2 fun h' => h (List.mem_append_left _ h')
      · rcases h with x | ⟨x, y⟩
        · exact .inl x
        · rcases List.mem_append.mp y with y | y
          · exact .inr ⟨x, y⟩
          · exfalso
            have := hr (k' - 1) (by omega)
            have y' : j' + k' - 1 = j := by simpa using y
            have e1 : i' + ((k' - 1 : Nat) : Int) = i := by omega
            have e2 : j' + ((k' - 1 : Nat) : Int) = j := by omega
            rw [e1, e2, hf] at this; cases this
    by_cases c1 : j < blo
    · have hf : eqW A B q alo ahi blo bhi i j = false := by
        cases e : eqW A B q alo ahi blo bhi i j with
        | false => rfl
        | true => have := (eqW_iff.mp e).2.2.1; omega
      simp only [wp_bind, wp_pure, wp_ld, wp_st, wp_add, wp_iadd, wp_sub, wp_lt, wp_gt, wp_le, wp_ge, wp_eqI, wp_neI, wp_tup, wp_asCons, wp_asNil, wp_then, wp_thenR, wp_thenC, wp_thenB, List.getElem?_cons_zero, List.getElem?_cons_succ, List.set_cons_zero, List.set_cons_succ, wp_ite, c1, decide_true, if_true]
      exact .inl ⟨.inr trivial, N, bi', bj', bk', _, _, rfl, by omega, (skip hf).1, (skip hf).2⟩
    · by_cases c2 : bhi ≤ j
      · simp only [wp_bind, wp_pure, wp_ld, wp_st, wp_add, wp_iadd, wp_sub, wp_lt, wp_gt, wp_le, wp_ge, wp_eqI, wp_neI, wp_tup, wp_asCons, wp_asNil, wp_then, wp_thenR, wp_thenC, wp_thenB, List.getElem?_cons_zero, List.getElem?_cons_succ, List.set_cons_zero, List.set_cons_succ, wp_ite, c1, c2, decide_true, if_true, decide_false, Bool.false_eq_true, if_false]
        have hout : ∀ j', eqW A B q alo ahi blo bhi i j' = true → j' ∈ ps.take idx := by
          intro j' he
          have h' := eqW_iff.mp he
          have hm' : j' ∈ ps := (hmem j').mpr ⟨by omega, by omega, h'.2.2.2.2.1.symm, by rw [h'.2.2.2.2.1]; exact h'.2.2.2.2.2⟩
          exact Classical.byContradiction fun hnt => by have := hpost j' hm' hnt; omega
        refine .inr ⟨trivial, trivial, N, bi', bj', bk', _, _, _, _, rfl, fun j' => ⟨fun he => (RN j').1 (hout j' he) he, fun hf => (RN j').2 fun _ => hf⟩, HO'.wider (fun i' j' k' _ h => by rcases h with x | x <;> omega) (fun i' j' k' hk h hr => ?_)⟩
        by_cases e : i' + k' - 1 < i
        · exact .inl e
        · refine .inr ⟨by omega, ?_⟩
          have := hr (k' - 1) (by omega)
          have e1 : i' + ((k' - 1 : Nat) : Int) = i := by omega
          have e2 : j' + ((k' - 1 : Nat) : Int) = j' + k' - 1 := by omega
          rw [e1, e2] at this
          exact hout _ this
      · have he : eqW A B q alo ahi blo bhi i j = true := eqW_iff.mpr ⟨a1, a3, by omega, by omega, hj2.symm, by rw [hj2]; exact hj3⟩
        obtain ⟨v, hv, hb⟩ := RD.k he
        have ev : (v : Int) + 1 = ((v + 1 : Nat) : Int) := by omega
        have hst := ended_step HO' hb (by omega) hpre
        have RN' : RowN (eqW A B q alo ahi blo bhi) i (ps.take idx ++ [j]) (putD N j (.int ((v + 1 : Nat) : Int))) := by
          intro j'
          rw [getD_putD]
          refine ⟨fun h he' => ?_, fun h => ?_⟩
          · by_cases e : j' = j
            · rw [if_pos e, e]; exact ⟨v + 1, rfl, hb⟩
            · rw [if_neg e]
              rcases List.mem_append.mp h with h | h
              · exact (RN j').1 h he'
              · exact absurd (by simpa using h) e
          · by_cases e : j' = j
            · rw [e] at h
              rw [h (by simp)] at he; cases he
            · rw [if_neg e]
              exact (RN j').2 fun h' => h (List.mem_append_left _ h')
        have hlen' : (putD N j (.int ((v + 1 : Nat) : Int))).length ≤ idx + 1 := Nat.le_trans putD_length (by omega)
        simp only [wp_bind, wp_pure, wp_ld, wp_st, wp_add, wp_iadd, wp_sub, wp_lt, wp_gt, wp_le, wp_ge, wp_eqI, wp_neI, wp_tup, wp_asCons, wp_asNil, wp_then, wp_thenR, wp_thenC, wp_thenB, List.getElem?_cons_zero, List.getElem?_cons_succ, List.set_cons_zero, List.set_cons_succ, wp_ite, c1, c2, decide_false, Bool.false_eq_true, if_false, wp_bmget ((pa N).get hl), hv, wp_setD get_last (show N.length ≤ lim by omega), set_last, ev]
        by_cases c3 : (bk' : Int) < ((v + 1 : Nat) : Int)
        · simp only [c3, decide_true, if_true, wp_bind, wp_pure, wp_ld, wp_st, wp_add, wp_iadd, wp_sub, wp_lt, wp_gt, wp_le, wp_ge, wp_eqI, wp_neI, wp_tup, wp_asCons, wp_asNil, wp_then, wp_thenR, wp_thenC, wp_thenB, List.getElem?_cons_zero, List.getElem?_cons_succ, List.set_cons_zero, List.set_cons_succ, wp_sw (n := 3) (l := [_, _, _]) rfl, List.reverse_cons, List.reverse_nil, List.nil_append, List.cons_append, List.length_cons, List.length_nil]
          exact ⟨by omega, .inl ⟨.inl trivial, _, _, _, v + 1, _, _, rfl, hlen', RN', hst.1 (by omega)⟩⟩
        · simp only [c3, decide_false, Bool.false_eq_true, if_false, wp_bind, wp_pure, wp_ld, wp_st, wp_add, wp_iadd, wp_sub, wp_lt, wp_gt, wp_le, wp_ge, wp_eqI, wp_neI, wp_tup, wp_asCons, wp_asNil, wp_then, wp_thenR, wp_thenC, wp_thenB, List.getElem?_cons_zero, List.getElem?_cons_succ, List.set_cons_zero, List.set_cons_succ]
          exact .inl ⟨.inl trivial, _, _, _, bk', _, _, rfl, hlen', RN', hst.2 (by omega)⟩
  · rintro σ' ⟨N, bi', bj', bk', o17', o18', rfl, hN, RN, HO'⟩
    have htk : ps.take (intsL ps).length = ps := by unfold intsL; simp
    rw [htk] at RN HO'
    have hout : ∀ j', eqW A B q alo ahi blo bhi i j' = true → j' ∈ ps := by
      intro j' he
      have h' := eqW_iff.mp he
      exact (hmem j').mpr ⟨by omega, by omega, h'.2.2.2.2.1.symm, by rw [h'.2.2.2.2.1]; exact h'.2.2.2.2.2⟩
    unfold fSt
    simp only [wp_bind, wp_pure, wp_ld, wp_st, wp_add, wp_iadd, wp_sub, wp_lt, wp_gt, wp_le, wp_ge, wp_eqI, wp_neI, wp_tup, wp_asCons, wp_asNil, wp_then, wp_thenR, wp_thenC, wp_thenB, List.getElem?_cons_zero, List.getElem?_cons_succ, List.set_cons_zero, List.set_cons_succ]
    refine ⟨trivial, N, bi', bj', bk', _, _, _, _, rfl, fun j' => ⟨fun he => (RN j').1 (hout j' he) he, fun hf => (RN j').2 fun _ => hf⟩, HO'.wider (fun i' j' k' _ h => by rcases h with x | x <;> omega) (fun i' j' k' hk h hr => ?_)⟩
    by_cases e : i' + k' - 1 < i
    · exact .inl e
    · refine .inr ⟨by omega, ?_⟩
      have := hr (k' - 1) (by omega)
      have e1 : i' + ((k' - 1 : Nat) : Int) = i := by omega
      have e2 : j' + ((k' - 1 : Nat) : Int) = j' + k' - 1 := by omega
      rw [e1, e2] at this
      exact hout _ this
end
end Mine

open PySem PySem.W PyProof.Rows
set_option Elab.async false
set_option maxRecDepth 100000
set_option maxHeartbeats 1000000
set_option linter.unusedVariables false
set_option linter.unusedSimpArgs false
namespace Mine
theorem wp_attr {i n : Nat} {l : List (Option AV)} {v : AV} {P : AV → St → Prop} {hp : List AO} {lc : List (Option AV)} (h : hp[n]? = some (.inst l)) (hi : l[i]? = some (some v)) (hv : hOk v = true) : Wp (attrM i (.ref n)) P ⟨hp, lc⟩ = P v ⟨hp, lc⟩ := wp_of (by unfold attrM; simp only [h, hi, hv, if_true])
theorem wp_instM {n : Nat} {l : List (Option AV)} {P : Unit → St → Prop} {hp : List AO} {lc : List (Option AV)} (h : hp[n]? = some (.inst l)) : Wp (instM (.ref n)) P ⟨hp, lc⟩ = P () ⟨hp, lc⟩ := wp_of (by unfold instM; simp only [h])
theorem wp_match {C : Cx} (H : Ok C) {i j k : Int} {P : AV → St → Prop} {σ : St} : Wp (g_Match C [.int i, .int j, .int k]) P σ = P (.mat [.int i, .int j, .int k]) σ := by
  have key : Wp (g_new C [.st (.ref 135), .int i, .int j, .int k]) (fun r σ' => r = .mat [.int i, .int j, .int k] ∧ σ' = σ) σ := by
    refine wp_fn (lc := [some (.st (.ref 135)), some (.int i), some (.int j), some (.int k)]) rfl ?_
    unfold m_new
    have e1 : ∀ τ, tnewM C [.st (.ref 135), .tup [.int i, .int j, .int k]] τ = some (.mat [.int i, .int j, .int k], τ) := fun τ => by
      unfold tnewM
      dsimp only
      rw [if_pos ⟨by rw [H.hm], by simp⟩]
    simp only [wp_bind, wp_pure, wp_ld, wp_st, wp_add, wp_iadd, wp_sub, wp_lt, wp_gt, wp_le, wp_ge, wp_eqI, wp_neI, wp_tup, wp_asCons, wp_asNil, wp_then, wp_thenR, wp_thenC, wp_thenB, List.getElem?_cons_zero, List.getElem?_cons_succ, List.set_cons_zero, List.set_cons_succ, wp_of (e1 _), retOf, List.length_cons, List.length_nil]
    exact ⟨by omega, trivial, trivial⟩
  obtain ⟨a, σ', e, rfl, rfl⟩ := key
  refine wp_of ?_
  unfold g_Match matM
  dsimp only
  rw [e]
section
variable {C : Cx} {A B J : List Int} {q p : Int → Bool} {D : List (Int × AV)} {me ra rb rd rj rn rl : Nat} {hp : List AO} {o14 o15 o16 o17 o18 : Option AV} {alo ahi blo bhi bi bj i j k : Int} {bk : Nat}
noncomputable def flmT2 (C : Cx) : M Fl := do let f ← (whileM fuel (w_find_longest_match_b3 C) (m_find_longest_match_b3 C)); thenM f (do let f ← (whileM fuel (w_find_longest_match_b4 C) (m_find_longest_match_b4 C)); thenM f (do let f ← (whileM fuel (w_find_longest_match_b5 C) (m_find_longest_match_b5 C)); thenM f (do let f ← (whileM fuel (w_find_longest_match_b6 C) (m_find_longest_match_b6 C)); thenM f (do let f ← (do let a ← (do let l ← (do let a ← (ldM 9); let l ← (do let a ← (ldM 10); let l ← (do let a ← (ldM 11); let l ← (pure []); pure (a :: l)); pure (a :: l)); pure (a :: l)); g_Match C l); pure (.ret a)); thenM f (pure .next)))))
noncomputable def flmT1 (C : Cx) : M Fl := do let f ← (do let a ← (do let l ← (do let a ← (ldM 1); let l ← (do let a ← (ldM 3); let l ← (do let a ← (pure (.int 0)); let l ← (pure []); pure (a :: l)); pure (a :: l)); pure (a :: l)); tupM l); swM 3 (asCons (stM 11) (asCons (stM 10) (asCons (stM 9) asNil))) a; pure .next); thenM f (do let f ← (do let a ← (allocM (.dict [])); (stM 12) a; pure .next); thenM f (do let f ← (do let a ← (do let l ← (pure []); mkListM l); (stM 13) a; pure .next); thenM f (do let f ← (do let a ← (do let l ← (do let a ← (ldM 1); let l ← (do let a ← (ldM 2); let l ← (pure []); pure (a :: l)); pure (a :: l)); rangeM l); let g ← iterM a; forM' fuel g (stM 14) (m_find_longest_match_b1 C)); thenM f (flmT2 C))))
def lft (w : M Bool) (p : Int → Bool) (A B : List Int) (me ra rb rd rj : Nat) (alo ahi blo bhi : Int) (hp : List AO) : Prop := ∀ (bi bj bk : Int) (rl rn : Nat) (o14 o15 o16 o17 o18 : Option AV) (P : Bool → St → Prop), bi ≤ A.length → bj ≤ B.length →
  Wp w P (fSt hp me ra rb rd rj alo ahi blo bhi bi bj bk rl rn o14 o15 o16 o17 o18) = P (okL A B p alo blo bi bj) (fSt hp me ra rb rd rj alo ahi blo bhi bi bj bk rl rn o14 o15 o16 o17 o18)
def rgt (w : M Bool) (p : Int → Bool) (A B : List Int) (me ra rb rd rj : Nat) (alo ahi blo bhi : Int) (hp : List AO) : Prop := ∀ (bi bj bk : Int) (rl rn : Nat) (o14 o15 o16 o17 o18 : Option AV) (P : Bool → St → Prop), 0 ≤ bi + bk → 0 ≤ bj + bk →
  Wp w P (fSt hp me ra rb rd rj alo ahi blo bhi bi bj bk rl rn o14 o15 o16 o17 o18) = P (okR A B p ahi bhi (bi + bk) (bj + bk)) (fSt hp me ra rb rd rj alo ahi blo bhi bi bj bk rl rn o14 o15 o16 o17 o18)
theorem lft3 (F : FH hp me ra rb rd rj A B q J D) (a0 : 0 ≤ alo) (b0 : 0 ≤ blo) : lft (w_find_longest_match_b3 C) (fun x => !decide (x ∈ J)) A B me ra rb rd rj alo ahi blo bhi hp := by
  intro bi bj bk rl rn o14 o15 o16 o17 o18 P h1 h2
  have hlim : lim = 1000000 := rfl
  have lA := F.lA
  have lB := F.lB
  unfold w_find_longest_match_b3 fSt okL
  by_cases c1 : alo < bi
  · by_cases c2 : blo < bj
    · simp only [wp_bind, wp_pure, wp_ld, wp_st, wp_add, wp_iadd, wp_sub, wp_lt, wp_gt, wp_le, wp_ge, wp_eqI, wp_neI, wp_tup, wp_asCons, wp_asNil, wp_then, wp_thenR, wp_thenC, wp_thenB, List.getElem?_cons_zero, List.getElem?_cons_succ, List.set_cons_zero, List.set_cons_succ, wp_ite, c1, c2, decide_true, if_true, wp_itemL F.hB (show B.length ≤ lim by omega) (show 0 ≤ bj - 1 by omega) (show bj - 1 < B.length by omega), wp_itemL F.hA (show A.length ≤ lim by omega) (show 0 ≤ bi - 1 by omega) (show bi - 1 < A.length by omega), wp_bmcont F.hJ, wp_truB, Bool.true_and]
      by_cases c : it B (bj - 1) ∈ J <;> cases it A (bi - 1) == it B (bj - 1) <;> simp [c]
    · simp only [wp_bind, wp_pure, wp_ld, wp_st, wp_add, wp_iadd, wp_sub, wp_lt, wp_gt, wp_le, wp_ge, wp_eqI, wp_neI, wp_tup, wp_asCons, wp_asNil, wp_then, wp_thenR, wp_thenC, wp_thenB, List.getElem?_cons_zero, List.getElem?_cons_succ, List.set_cons_zero, List.set_cons_succ, wp_ite, c1, c2, decide_true, if_true, decide_false, Bool.false_eq_true, if_false, Bool.false_and, Bool.and_false]
  · simp only [wp_bind, wp_pure, wp_ld, wp_st, wp_add, wp_iadd, wp_sub, wp_lt, wp_gt, wp_le, wp_ge, wp_eqI, wp_neI, wp_tup, wp_asCons, wp_asNil, wp_then, wp_thenR, wp_thenC, wp_thenB, List.getElem?_cons_zero, List.getElem?_cons_succ, List.set_cons_zero, List.set_cons_succ, wp_ite, c1, decide_false, Bool.false_eq_true, if_false, Bool.false_and]
theorem lft5 (F : FH hp me ra rb rd rj A B q J D) (a0 : 0 ≤ alo) (b0 : 0 ≤ blo) : lft (w_find_longest_match_b5 C) (fun x => decide (x ∈ J)) A B me ra rb rd rj alo ahi blo bhi hp := by
  intro bi bj bk rl rn o14 o15 o16 o17 o18 P h1 h2
  have hlim : lim = 1000000 := rfl
  have lA := F.lA
  have lB := F.lB
  unfold w_find_longest_match_b5 fSt okL
  by_cases c1 : alo < bi
  · by_cases c2 : blo < bj
    · simp only [wp_bind, wp_pure, wp_ld, wp_st, wp_add, wp_iadd, wp_sub, wp_lt, wp_gt, wp_le, wp_ge, wp_eqI, wp_neI, wp_tup, wp_asCons, wp_asNil, wp_then, wp_thenR, wp_thenC, wp_thenB, List.getElem?_cons_zero, List.getElem?_cons_succ, List.set_cons_zero, List.set_cons_succ, wp_ite, c1, c2, decide_true, if_true, wp_itemL F.hB (show B.length ≤ lim by omega) (show 0 ≤ bj - 1 by omega) (show bj - 1 < B.length by omega), wp_itemL F.hA (show A.length ≤ lim by omega) (show 0 ≤ bi - 1 by omega) (show bi - 1 < A.length by omega), wp_bmcont F.hJ, wp_truB, Bool.true_and]
      by_cases c : it B (bj - 1) ∈ J <;> cases it A (bi - 1) == it B (bj - 1) <;> simp [c]
    · simp only [wp_bind, wp_pure, wp_ld, wp_st, wp_add, wp_iadd, wp_sub, wp_lt, wp_gt, wp_le, wp_ge, wp_eqI, wp_neI, wp_tup, wp_asCons, wp_asNil, wp_then, wp_thenR, wp_thenC, wp_thenB, List.getElem?_cons_zero, List.getElem?_cons_succ, List.set_cons_zero, List.set_cons_succ, wp_ite, c1, c2, decide_true, if_true, decide_false, Bool.false_eq_true, if_false, Bool.false_and, Bool.and_false]
  · simp only [wp_bind, wp_pure, wp_ld, wp_st, wp_add, wp_iadd, wp_sub, wp_lt, wp_gt, wp_le, wp_ge, wp_eqI, wp_neI, wp_tup, wp_asCons, wp_asNil, wp_then, wp_thenR, wp_thenC, wp_thenB, List.getElem?_cons_zero, List.getElem?_cons_succ, List.set_cons_zero, List.set_cons_succ, wp_ite, c1, decide_false, Bool.false_eq_true, if_false, Bool.false_and]
theorem rgt4 (F : FH hp me ra rb rd rj A B q J D) (a2 : ahi ≤ A.length) (b2 : bhi ≤ B.length) : rgt (w_find_longest_match_b4 C) (fun x => !decide (x ∈ J)) A B me ra rb rd rj alo ahi blo bhi hp := by
  intro bi bj bk rl rn o14 o15 o16 o17 o18 P h1 h2
  have hlim : lim = 1000000 := rfl
  have lA := F.lA
  have lB := F.lB
  unfold w_find_longest_match_b4 fSt okR
  by_cases c1 : bi + bk < ahi
  · by_cases c2 : bj + bk < bhi
    · simp only [wp_bind, wp_pure, wp_ld, wp_st, wp_add, wp_iadd, wp_sub, wp_lt, wp_gt, wp_le, wp_ge, wp_eqI, wp_neI, wp_tup, wp_asCons, wp_asNil, wp_then, wp_thenR, wp_thenC, wp_thenB, List.getElem?_cons_zero, List.getElem?_cons_succ, List.set_cons_zero, List.set_cons_succ, wp_ite, c1, c2, decide_true, if_true, wp_itemL F.hB (show B.length ≤ lim by omega) (show 0 ≤ bj + bk by omega) (show bj + bk < B.length by omega), wp_itemL F.hA (show A.length ≤ lim by omega) (show 0 ≤ bi + bk by omega) (show bi + bk < A.length by omega), wp_bmcont F.hJ, wp_truB, Bool.true_and]
      by_cases c : it B (bj + bk) ∈ J <;> cases it A (bi + bk) == it B (bj + bk) <;> simp [c]
    · simp only [wp_bind, wp_pure, wp_ld, wp_st, wp_add, wp_iadd, wp_sub, wp_lt, wp_gt, wp_le, wp_ge, wp_eqI, wp_neI, wp_tup, wp_asCons, wp_asNil, wp_then, wp_thenR, wp_thenC, wp_thenB, List.getElem?_cons_zero, List.getElem?_cons_succ, List.set_cons_zero, List.set_cons_succ, wp_ite, c1, c2, decide_true, if_true, decide_false, Bool.false_eq_true, if_false, Bool.false_and, Bool.and_false]
  · simp only [wp_bind, wp_pure, wp_ld, wp_st, wp_add, wp_iadd, wp_sub, wp_lt, wp_gt, wp_le, wp_ge, wp_eqI, wp_neI, wp_tup, wp_asCons, wp_asNil, wp_then, wp_thenR, wp_thenC, wp_thenB, List.getElem?_cons_zero, List.getElem?_cons_succ, List.set_cons_zero, List.set_cons_succ, wp_ite, c1, decide_false, Bool.false_eq_true, if_false, Bool.false_and]
theorem rgt6 (F : FH hp me ra rb rd rj A B q J D) (a2 : ahi ≤ A.length) (b2 : bhi ≤ B.length) : rgt (w_find_longest_match_b6 C) (fun x => decide (x ∈ J)) A B me ra rb rd rj alo ahi blo bhi hp := by
  intro bi bj bk rl rn o14 o15 o16 o17 o18 P h1 h2
  have hlim : lim = 1000000 := rfl
  have lA := F.lA
  have lB := F.lB
  unfold w_find_longest_match_b6 fSt okR
  by_cases c1 : bi + bk < ahi
  · by_cases c2 : bj + bk < bhi
    · simp only [wp_bind, wp_pure, wp_ld, wp_st, wp_add, wp_iadd, wp_sub, wp_lt, wp_gt, wp_le, wp_ge, wp_eqI, wp_neI, wp_tup, wp_asCons, wp_asNil, wp_then, wp_thenR, wp_thenC, wp_thenB, List.getElem?_cons_zero, List.getElem?_cons_succ, List.set_cons_zero, List.set_cons_succ, wp_ite, c1, c2, decide_true, if_true, wp_itemL F.hB (show B.length ≤ lim by omega) (show 0 ≤ bj + bk by omega) (show bj + bk < B.length by omega), wp_itemL F.hA (show A.length ≤ lim by omega) (show 0 ≤ bi + bk by omega) (show bi + bk < A.length by omega), wp_bmcont F.hJ, wp_truB, Bool.true_and]
      by_cases c : it B (bj + bk) ∈ J <;> cases it A (bi + bk) == it B (bj + bk) <;> simp [c]
    · simp only [wp_bind, wp_pure, wp_ld, wp_st, wp_add, wp_iadd, wp_sub, wp_lt, wp_gt, wp_le, wp_ge, wp_eqI, wp_neI, wp_tup, wp_asCons, wp_asNil, wp_then, wp_thenR, wp_thenC, wp_thenB, List.getElem?_cons_zero, List.getElem?_cons_succ, List.set_cons_zero, List.set_cons_succ, wp_ite, c1, c2, decide_true, if_true, decide_false, Bool.false_eq_true, if_false, Bool.false_and, Bool.and_false]
  · simp only [wp_bind, wp_pure, wp_ld, wp_st, wp_add, wp_iadd, wp_sub, wp_lt, wp_gt, wp_le, wp_ge, wp_eqI, wp_neI, wp_tup, wp_asCons, wp_asNil, wp_then, wp_thenR, wp_thenC, wp_thenB, List.getElem?_cons_zero, List.getElem?_cons_succ, List.set_cons_zero, List.set_cons_succ, wp_ite, c1, decide_false, Bool.false_eq_true, if_false, Bool.false_and]
/-- a loop to the left -/
theorem grow_left {w : M Bool} {m : M Fl} (hw : lft w p A B me ra rb rd rj alo ahi blo bhi hp) (hm : ∀ (bi bj bk : Int) (P : Fl → St → Prop), P .next (fSt hp me ra rb rd rj alo ahi blo bhi (bi - 1) (bj - 1) (bk + 1) rl rn o14 o15 o16 o17 o18) → Wp m P (fSt hp me ra rb rd rj alo ahi blo bhi bi bj bk rl rn o14 o15 o16 o17 o18))
    (lA : A.length ≤ 100000) (a0 : 0 ≤ alo) (ha : bi ≤ A.length) (hb : bj ≤ B.length) {k : Int} {P : Fl → St → Prop}
    (h : ∀ t : Nat, GrowL A B p alo blo bi bj t → P .next (fSt hp me ra rb rd rj alo ahi blo bhi (bi - t) (bj - t) (k + t) rl rn o14 o15 o16 o17 o18)) :
    Wp (whileM fuel w m) P (fSt hp me ra rb rd rj alo ahi blo bhi bi bj k rl rn o14 o15 o16 o17 o18) := by
  have hfu : fuel = 2000000 := rfl
  refine wp_while (fun n σ' => ∃ t : Nat, σ' = fSt hp me ra rb rd rj alo ahi blo bhi (bi - t) (bj - t) (k + t) rl rn o14 o15 o16 o17 o18 ∧ n = (bi - alo).toNat - t ∧ ∀ s : Nat, s < t → okL A B p alo blo (bi - s) (bj - s) = true) ?_ ((bi - alo).toNat) fuel _ (by rw [hfu]; omega) ⟨0, by simp [fSt], by simp, fun s hs => by omega⟩
  rintro n σ' ⟨t, rfl, hn, hall⟩
  rw [hw _ _ _ _ _ _ _ _ _ _ _ (by omega) (by omega)]
  cases hc : okL A B p alo blo (bi - t) (bj - t) with
  | true =>
    have hc1 : alo < bi - t := by unfold okL at hc; simp at hc; exact hc.1
    simp only [if_true]
    refine hm _ _ _ _ ⟨.inl rfl, (bi - alo).toNat - (t + 1), by omega, t + 1, ?_, rfl, fun s hs => ?_⟩
    · have e1 : bi - ((t + 1 : Nat) : Int) = bi - t - 1 := by omega
      have e2 : bj - ((t + 1 : Nat) : Int) = bj - t - 1 := by omega
      have e3 : k + ((t + 1 : Nat) : Int) = k + t + 1 := by omega
      rw [e1, e2, e3]
    · by_cases hst : s = t
      · subst hst; exact hc
      · exact hall s (by omega)
  | false =>
    simp only [Bool.false_eq_true, if_false]
    exact h t ⟨hall, hc⟩
/-- a loop to the right -/
theorem grow_right {w : M Bool} {m : M Fl} (hw : rgt w p A B me ra rb rd rj alo ahi blo bhi hp) (hm : ∀ (bi bj bk : Int) (P : Fl → St → Prop), P .next (fSt hp me ra rb rd rj alo ahi blo bhi bi bj (bk + 1) rl rn o14 o15 o16 o17 o18) → Wp m P (fSt hp me ra rb rd rj alo ahi blo bhi bi bj bk rl rn o14 o15 o16 o17 o18))
    (lA : A.length ≤ 100000) (a2 : ahi ≤ A.length) {k : Int} (ha : 0 ≤ bi + k) (hb : 0 ≤ bj + k) {P : Fl → St → Prop}
    (h : ∀ t : Nat, GrowR A B p ahi bhi (bi + k) (bj + k) t → P .next (fSt hp me ra rb rd rj alo ahi blo bhi bi bj (k + t) rl rn o14 o15 o16 o17 o18)) :
    Wp (whileM fuel w m) P (fSt hp me ra rb rd rj alo ahi blo bhi bi bj k rl rn o14 o15 o16 o17 o18) := by
  have hfu : fuel = 2000000 := rfl
  refine wp_while (fun n σ' => ∃ t : Nat, σ' = fSt hp me ra rb rd rj alo ahi blo bhi bi bj (k + t) rl rn o14 o15 o16 o17 o18 ∧ n = (ahi - (bi + k)).toNat - t ∧ ∀ s : Nat, s < t → okR A B p ahi bhi (bi + k + s) (bj + k + s) = true) ?_ ((ahi - (bi + k)).toNat) fuel _ (by rw [hfu]; omega) ⟨0, by simp [fSt], by simp, fun s hs => by omega⟩
  rintro n σ' ⟨t, rfl, hn, hall⟩
  rw [hw _ _ _ _ _ _ _ _ _ _ _ (by omega) (by omega)]
  have ei : bi + (k + t) = bi + k + t := by omega
  have ej : bj + (k + t) = bj + k + t := by omega
  rw [ei, ej]
  cases hc : okR A B p ahi bhi (bi + k + t) (bj + k + t) with
  | true =>
    have hc1 : bi + k + t < ahi := by unfold okR at hc; simp at hc; exact hc.1
    simp only [if_true]
    refine hm _ _ _ _ ⟨.inl rfl, (ahi - (bi + k)).toNat - (t + 1), by omega, t + 1, ?_, rfl, fun s hs => ?_⟩
    · have e3 : k + ((t + 1 : Nat) : Int) = k + t + 1 := by omega
      rw [e3]
    · by_cases hst : s = t
      · subst hst; exact hc
      · exact hall s (by omega)
  | false =>
    simp only [Bool.false_eq_true, if_false]
    exact h t ⟨hall, hc⟩
/-- what find_longest_match answers -/
structure Told (A B : List Int) (q pj : Int → Bool) (alo ahi blo bhi : Int) (i j : Int) (k t1 t2 t3 t4 : Nat) : Prop where
  heart : Heart (eqW A B q alo ahi blo bhi) alo blo i j k
  g1 : GrowL A B (fun x => !pj x) alo blo i j t1
  g2 : GrowR A B (fun x => !pj x) ahi bhi (i + k) (j + k) t2
  g3 : GrowL A B pj alo blo (i - t1) (j - t1) t3
  g4 : GrowR A B pj ahi bhi (i + k + t2) (j + k + t2) t4
theorem heart_in {A B : List Int} {q : Int → Bool} (a1 : alo ≤ ahi) (b1 : blo ≤ bhi) {i j : Int} {k : Nat} (h : Heart (eqW A B q alo ahi blo bhi) alo blo i j k) : alo ≤ i ∧ i + k ≤ ahi ∧ blo ≤ j ∧ j + k ≤ bhi := by
  by_cases h0 : k = 0
  · obtain ⟨rfl, rfl⟩ := h.none h0
    subst h0
    refine ⟨?_, ?_, ?_, ?_⟩ <;> simp <;> omega
  · have x := eqW_iff.mp (h.run 0 (by omega))
    have y := eqW_iff.mp (h.run (k - 1) (by omega))
    have e : ((k - 1 : Nat) : Int) = (k : Int) - 1 := by omega
    rw [e] at y
    simp at x
    omega
theorem flm_end (H : Ok C) (F : FH hp me ra rb rd rj A B q J D) (a0 : 0 ≤ alo) (a1 : alo ≤ ahi) (a2 : ahi ≤ A.length) (b0 : 0 ≤ blo) (b1 : blo ≤ bhi) (b2 : bhi ≤ B.length) (h : Heart (eqW A B q alo ahi blo bhi) alo blo bi bj bk) {P : Fl → St → Prop}
    (hP : ∀ t1 t2 t3 t4 σ', Told A B q (fun x => decide (x ∈ J)) alo ahi blo bhi bi bj bk t1 t2 t3 t4 → σ'.hp = hp → P (.ret (.mat [.int (bi - t1 - t3), .int (bj - t1 - t3), .int (bk + t1 + t2 + t3 + t4)])) σ') :
    Wp (flmT2 C) P (fSt hp me ra rb rd rj alo ahi blo bhi bi bj bk rl rn o14 o15 o16 o17 o18) := by
  obtain ⟨hi1, hi2, hj1, hj2⟩ := heart_in a1 b1 h
  have lA := F.lA
  unfold flmT2
  rw [wp_bind]
  refine grow_left (lft3 F a0 b0) (fun bi bj bk P h => ?_) lA a0 (by omega) (by omega) fun t1 g1 => ?_
  · unfold m_find_longest_match_b3 fSt
    simp only [wp_bind, wp_pure, wp_ld, wp_st, wp_add, wp_iadd, wp_sub, wp_lt, wp_gt, wp_le, wp_ge, wp_eqI, wp_neI, wp_tup, wp_asCons, wp_asNil, wp_then, wp_thenR, wp_thenC, wp_thenB, List.getElem?_cons_zero, List.getElem?_cons_succ, List.set_cons_zero, List.set_cons_succ, wp_sw (n := 3) (l := [_, _, _]) rfl, List.reverse_cons, List.reverse_nil, List.nil_append, List.cons_append, List.length_cons, List.length_nil]
    exact ⟨by omega, h⟩
  rw [wp_then, wp_bind]
  refine grow_right (rgt4 F a2 b2) (fun bi bj bk P h => ?_) lA a2 (by omega) (by omega) fun t2 g2 => ?_
  · unfold m_find_longest_match_b4 fSt
    simp only [wp_bind, wp_pure, wp_ld, wp_st, wp_add, wp_iadd, wp_sub, wp_lt, wp_gt, wp_le, wp_ge, wp_eqI, wp_neI, wp_tup, wp_asCons, wp_asNil, wp_then, wp_thenR, wp_thenC, wp_thenB, List.getElem?_cons_zero, List.getElem?_cons_succ, List.set_cons_zero, List.set_cons_succ]
    exact h
  rw [wp_then, wp_bind]
  have e1 : bi - (t1 : Int) + (bk + t1) = bi + bk := by omega
  have e2 : bj - (t1 : Int) + (bk + t1) = bj + bk := by omega
  rw [e1, e2] at g2
  refine grow_left (lft5 F a0 b0) (fun bi bj bk P h => ?_) lA a0 (by omega) (by omega) fun t3 g3 => ?_
  · unfold m_find_longest_match_b5 fSt
    simp only [wp_bind, wp_pure, wp_ld, wp_st, wp_add, wp_iadd, wp_sub, wp_lt, wp_gt, wp_le, wp_ge, wp_eqI, wp_neI, wp_tup, wp_asCons, wp_asNil, wp_then, wp_thenR, wp_thenC, wp_thenB, List.getElem?_cons_zero, List.getElem?_cons_succ, List.set_cons_zero, List.set_cons_succ, wp_sw (n := 3) (l := [_, _, _]) rfl, List.reverse_cons, List.reverse_nil, List.nil_append, List.cons_append, List.length_cons, List.length_nil]
    exact ⟨by omega, h⟩
  rw [wp_then, wp_bind]
  refine grow_right (rgt6 F a2 b2) (fun bi bj bk P h => ?_) lA a2 (by omega) (by omega) fun t4 g4 => ?_
  · unfold m_find_longest_match_b6 fSt
    simp only [wp_bind, wp_pure, wp_ld, wp_st, wp_add, wp_iadd, wp_sub, wp_lt, wp_gt, wp_le, wp_ge, wp_eqI, wp_neI, wp_tup, wp_asCons, wp_asNil, wp_then, wp_thenR, wp_thenC, wp_thenB, List.getElem?_cons_zero, List.getElem?_cons_succ, List.set_cons_zero, List.set_cons_succ]
    exact h
  have e3 : bi - (t1 : Int) - t3 + (bk + t1 + t2 + t3) = bi + bk + t2 := by omega
  have e4 : bj - (t1 : Int) - t3 + (bk + t1 + t2 + t3) = bj + bk + t2 := by omega
  rw [e3, e4] at g4
  unfold fSt
  simp only [wp_bind, wp_pure, wp_ld, wp_st, wp_add, wp_iadd, wp_sub, wp_lt, wp_gt, wp_le, wp_ge, wp_eqI, wp_neI, wp_tup, wp_asCons, wp_asNil, wp_then, wp_thenR, wp_thenC, wp_thenB, List.getElem?_cons_zero, List.getElem?_cons_succ, List.set_cons_zero, List.set_cons_succ, wp_match H]
  exact hP t1 t2 t3 t4 _ ⟨h, g1, g2, g3, g4⟩ rfl
theorem flm_dp (H : Ok C) (F : FH hp me ra rb rd rj A B q J D) (a0 : 0 ≤ alo) (a1 : alo ≤ ahi) (a2 : ahi ≤ A.length) (b0 : 0 ≤ blo) (b1 : blo ≤ bhi) (b2 : bhi ≤ B.length) {P : Fl → St → Prop}
    (hP : ∀ i j k t1 t2 t3 t4 σ', Told A B q (fun x => decide (x ∈ J)) alo ahi blo bhi i j k t1 t2 t3 t4 → Pre hp σ'.hp → P (.ret (.mat [.int (i - t1 - t3), .int (j - t1 - t3), .int (k + t1 + t2 + t3 + t4)])) σ') :
    Wp (flmT1 C) P ⟨hp, [some (.ref me), some (.int alo), some (.int ahi), some (.int blo), some (.int bhi), some (.ref ra), some (.ref rb), some (.ref rd), some (.bm rj "set.__contains__"), none, none, none, none, none, none, none, none, none, none]⟩ := by
  have hlim : lim = 1000000 := rfl
  have hfu : fuel = 2000000 := rfl
  have lA := F.lA
  unfold flmT1
  simp only [wp_bind, wp_pure, wp_ld, wp_st, wp_add, wp_iadd, wp_sub, wp_lt, wp_gt, wp_le, wp_ge, wp_eqI, wp_neI, wp_tup, wp_asCons, wp_asNil, wp_then, wp_thenR, wp_thenC, wp_thenB, List.getElem?_cons_zero, List.getElem?_cons_succ, List.set_cons_zero, List.set_cons_succ, wp_sw (n := 3) (l := [_, _, _]) rfl, List.reverse_cons, List.reverse_nil, List.nil_append, List.cons_append, List.length_cons, List.length_nil, wp_alloc, wp_list, wp_range2, wp_iterR (a := alo) (b := ahi) a0 (by omega) (by omega) (by omega)]
  refine ⟨by omega, by omega, ?_⟩
  have key := wp_for_range (st := stM 14) (b := m_find_longest_match_b1 C) (P := fun f σ' => Wp (thenM f (flmT2 C)) P σ')
    (fun n σ' => ∃ (hp' : List AO) (rl : Nat) (Dl : List (Int × AV)) (bi bj : Int) (bk : Nat) (o14 o15 o16 o17 o18 : Option AV), σ' = fSt hp' me ra rb rd rj alo ahi blo bhi bi bj bk rl (hp.length + 1) o14 o15 o16 o17 o18 ∧ Pre (hp ++ [.dict []] ++ [.list []]) hp' ∧ hp'[rl]? = some (.dict Dl) ∧ RowD (eqW A B q alo ahi blo bhi) (alo + n - 1) Dl ∧ HeartOn (fun i' _ k' => i' + k' - 1 < alo + n) (eqW A B q alo ahi blo bhi) alo blo bi bj bk) alo (ahi - alo).toNat ?_ ?_ (ahi - alo).toNat 0 fuel
    (fSt (hp ++ [.dict []] ++ [.list []]) me ra rb rd rj alo ahi blo bhi alo blo (0 : Nat) hp.length (hp.length + 1) none none none none none) (by omega) (by rw [hfu]; omega)
    ⟨_, _, [], alo, blo, 0, none, none, none, none, none, rfl, Pre.refl _, by simp, fun j => ⟨fun he => by have := (eqW_iff.mp he).1; simp at this; omega, fun _ => rfl⟩, HeartOn.start (fun i j k hS hr => by
      by_cases hk : k = 0
      · exact hk
      · have := eqW_iff.mp (hr 0 (by omega)); simp at this hS; omega)⟩
  · simpa [fSt] using key
  · rintro n hn σ' ⟨hp', rl, Dl, bi, bj, bk, o14, o15, o16, o17, o18, rfl, pre, hl, RD, HO⟩
    have pre0 : Pre hp hp' := (((Pre.refl hp).app _).app _).trans pre
    have hrn : hp'[hp.length + 1]? = some (.list []) := pre.get (by simp)
    unfold fSt
    rw [wp_st]
    simp only [List.set_cons_zero, List.set_cons_succ]
    refine wp_mono (dp_row (C := C) (i := alo + n) (o15 := o15) (o16 := o16) (o17 := o17) (o18 := o18) (F.pre pre0) hrn hl RD a0 (by omega) (by omega) a2 b0 b2 HO) fun f σ₂ h => ?_
    obtain ⟨rfl, N, bi', bj', bk', o15', o16', o17', o18', rfl, RD', HO'⟩ := h
    have e : alo + ((n + 1 : Nat) : Int) = alo + n + 1 := by omega
    have e' : alo + ((n + 1 : Nat) : Int) - 1 = alo + n := by omega
    exact ⟨.inl rfl, _, _, N, bi', bj', bk', _, _, _, _, _, rfl, pre.app _, by simp, by rw [e']; exact RD', by rw [e]; exact HO'⟩
  · rintro σ' ⟨hp', rl, Dl, bi, bj, bk, o14, o15, o16, o17, o18, rfl, pre, hl, RD, HO⟩
    have pre0 : Pre hp hp' := (((Pre.refl hp).app _).app _).trans pre
    rw [wp_then]
    refine flm_end H (F.pre pre0) a0 a1 a2 b0 b1 b2 (HO.wider (fun _ _ _ _ _ => trivial) (fun i' j' k' hk _ hr => ?_)) fun t1 t2 t3 t4 σ' T hσ => hP _ _ _ _ _ _ _ _ T (by rw [hσ]; exact pre0)
    have := eqW_iff.mp (hr (k' - 1) (by omega))
    have e1 : ((k' - 1 : Nat) : Int) = (k' : Int) - 1 := by omega
    rw [e1] at this
    omega
theorem flm_body (H : Ok C) (F : FH hp me ra rb rd rj A B q J D) (a0 : 0 ≤ alo) (a1 : alo ≤ ahi) (a2 : ahi ≤ A.length) (b0 : 0 ≤ blo) (b1 : blo ≤ bhi) (b2 : bhi ≤ B.length) {x2 x4 : AV} (h2 : x2 = .int ahi ∨ (x2 = .none ∧ ahi = A.length)) (h4 : x4 = .int bhi ∨ (x4 = .none ∧ bhi = B.length)) {P : Fl → St → Prop}
    (hP : ∀ i j k t1 t2 t3 t4 σ', Told A B q (fun x => decide (x ∈ J)) alo ahi blo bhi i j k t1 t2 t3 t4 → Pre hp σ'.hp → P (.ret (.mat [.int (i - t1 - t3), .int (j - t1 - t3), .int (k + t1 + t2 + t3 + t4)])) σ') :
    Wp (m_find_longest_match C) P ⟨hp, [some (.ref me), some (.int alo), some x2, some (.int blo), some x4, none, none, none, none, none, none, none, none, none, none, none, none, none, none]⟩ := by
  have hlim : lim = 1000000 := rfl
  have lA := F.lA
  have lB := F.lB
  have tl := flm_dp H F a0 a1 a2 b0 b1 b2 hP
  unfold flmT1 flmT2 at tl
  obtain ⟨l, hl, l1, l2, l7, l8⟩ := F.hS
  unfold m_find_longest_match
  have eA : ((intsL A).length : Int) = A.length := by unfold intsL; rw [List.length_map]
  have eB : ((intsL B).length : Int) = B.length := by unfold intsL; rw [List.length_map]
  have mA : (intsL A).length ≤ 1000000 := by unfold intsL; rw [List.length_map]; omega
  have mB : (intsL B).length ≤ 1000000 := by unfold intsL; rw [List.length_map]; omega
  rw [wp_bind, wp_pure, wp_then, wp_bind]
  simp only [wp_bind, wp_pure, wp_ld, wp_tup, wp_asCons, wp_asNil, wp_st, List.getElem?_cons_zero, List.getElem?_cons_succ, List.set_cons_zero, List.set_cons_succ, wp_attr hl l1 rfl, wp_attr hl l2 rfl, wp_attr hl l7 rfl, wp_attr hl l8 rfl, wp_bm (T := "set") F.hJ rfl, wp_unp (n := 4) (l := [_, _, _, _]) rfl, List.length_cons, List.length_nil, wp_then]
  refine ⟨by omega, ?_⟩
  rcases h2 with rfl | ⟨rfl, rfl⟩ <;> rcases h4 with rfl | ⟨rfl, rfl⟩
  all_goals
    simp only [wp_isNone, wp_isNoneI, Bool.false_eq_true, if_false, if_true, wp_ite, wp_pure, wp_bind, wp_ld, wp_st, wp_then, List.getElem?_cons_zero, List.getElem?_cons_succ, List.set_cons_zero, List.set_cons_succ, wp_lenL F.hA mA, wp_lenL F.hB mB, eA, eB]
    simp only [wp_bind, wp_pure, wp_ld, wp_st, wp_then, List.getElem?_cons_zero, List.getElem?_cons_succ, List.set_cons_zero, List.set_cons_succ] at tl
    exact tl
theorem wp_flm (H : Ok C) {σ : St} (F : FH σ.hp me ra rb rd rj A B q J D) (a0 : 0 ≤ alo) (a1 : alo ≤ ahi) (a2 : ahi ≤ A.length) (b0 : 0 ≤ blo) (b1 : blo ≤ bhi) (b2 : bhi ≤ B.length) {P : AV → St → Prop}
    (hP : ∀ i j k t1 t2 t3 t4 hp', Told A B q (fun x => decide (x ∈ J)) alo ahi blo bhi i j k t1 t2 t3 t4 → Pre σ.hp hp' → P (.mat [.int (i - t1 - t3), .int (j - t1 - t3), .int (k + t1 + t2 + t3 + t4)]) ⟨hp', σ.lc⟩) :
    Wp (g_find_longest_match C [.ref me, .int alo, .int ahi, .int blo, .int bhi]) P σ :=
  wp_fn (lc := [some (.ref me), some (.int alo), some (.int ahi), some (.int blo), some (.int bhi), none, none, none, none, none, none, none, none, none, none, none, none, none, none]) rfl
    (flm_body H F a0 a1 a2 b0 b1 b2 (.inl rfl) (.inl rfl) fun i j k t1 t2 t3 t4 σ' T p => hP i j k t1 t2 t3 t4 _ T p)
theorem wp_flm0 (H : Ok C) {σ : St} (F : FH σ.hp me ra rb rd rj A B q J D) {P : AV → St → Prop}
    (hP : ∀ i j k t1 t2 t3 t4 hp', Told A B q (fun x => decide (x ∈ J)) 0 A.length 0 B.length i j k t1 t2 t3 t4 → Pre σ.hp hp' → P (.mat [.int (i - t1 - t3), .int (j - t1 - t3), .int (k + t1 + t2 + t3 + t4)]) ⟨hp', σ.lc⟩) :
    Wp (g_find_longest_match C [.ref me]) P σ :=
  wp_fn (lc := [some (.ref me), some (.int 0), some .none, some (.int 0), some .none, none, none, none, none, none, none, none, none, none, none, none, none, none, none]) rfl
    (flm_body H F (Int.le_refl _) (by omega) (Int.le_refl _) (Int.le_refl _) (by omega) (Int.le_refl _) (.inr ⟨rfl, rfl⟩) (.inr ⟨rfl, rfl⟩) fun i j k t1 t2 t3 t4 σ' T p => hP i j k t1 t2 t3 t4 _ T p)
end
end Mine

open PySem PySem.W PyProof.Rows
set_option Elab.async false
set_option maxRecDepth 100000
set_option maxHeartbeats 1000000
set_option linter.unusedVariables false
set_option linter.unusedSimpArgs false
namespace Mine
section
variable {A B : List Int} {q pj p : Int → Bool} {alo ahi blo bhi i j : Int} {k : Nat}
theorem okL_iff : okL A B p alo blo i j = true ↔ alo < i ∧ blo < j ∧ it A (i - 1) = it B (j - 1) ∧ p (it B (j - 1)) = true := by unfold okL; simp
theorem okR_iff : okR A B p ahi bhi i j = true ↔ i < ahi ∧ j < bhi ∧ it A i = it B j ∧ p (it B j) = true := by unfold okR; simp
theorem okL_congr {p' : Int → Bool} (h : ∀ j : Int, blo ≤ j → j < bhi → p (it B j) = p' (it B j)) (hj : j ≤ bhi) : okL A B p alo blo i j = okL A B p' alo blo i j := by
  unfold okL
  by_cases c : blo < j
  · rw [h (j - 1) (by omega) (by omega)]
  · simp [c]
theorem okR_congr {p' : Int → Bool} (h : ∀ j : Int, blo ≤ j → j < bhi → p (it B j) = p' (it B j)) (hj : blo ≤ j) : okR A B p ahi bhi i j = okR A B p' ahi bhi i j := by
  unfold okR
  by_cases c : j < bhi
  · rw [h j (by omega) c]
  · simp [c]
theorem GrowL.congr {p' : Int → Bool} {t : Nat} (g : GrowL A B p alo blo i j t) (h : ∀ j : Int, blo ≤ j → j < bhi → p (it B j) = p' (it B j)) (hj : j ≤ bhi) : GrowL A B p' alo blo i j t :=
  ⟨fun s hs => by rw [← okL_congr h (by omega)]; exact g.1 s hs, by rw [← okL_congr h (by omega)]; exact g.2⟩
theorem GrowR.congr {p' : Int → Bool} {t : Nat} (g : GrowR A B p ahi bhi i j t) (h : ∀ j : Int, blo ≤ j → j < bhi → p (it B j) = p' (it B j)) (hj : blo ≤ j) : GrowR A B p' ahi bhi i j t :=
  ⟨fun s hs => by rw [← okR_congr h (by omega)]; exact g.1 s hs, by rw [← okR_congr h (by omega)]; exact g.2⟩
theorem GrowL.nil (h : ∀ x, p x = false) : GrowL A B p alo blo i j 0 := ⟨fun s hs => by omega, by unfold okL; simp [h]⟩
theorem GrowR.nil (h : ∀ x, p x = false) : GrowR A B p ahi bhi i j 0 := ⟨fun s hs => by omega, by unfold okR; simp [h]⟩
/-- growth over some kinds, then over all -/
theorem GrowL.all {t u : Nat} (g : GrowL A B p alo blo i j t) (g' : GrowL A B (fun _ => true) alo blo (i - t) (j - t) u) : GrowL A B (fun _ => true) alo blo i j (t + u) := by
  refine ⟨fun s hs => ?_, ?_⟩
  · by_cases h : s < t
    · have := okL_iff.mp (g.1 s h)
      exact okL_iff.mpr ⟨this.1, this.2.1, this.2.2.1, rfl⟩
    · have := g'.1 (s - t) (by omega)
      have e1 : i - (t : Int) - ((s - t : Nat) : Int) = i - s := by omega
      have e2 : j - (t : Int) - ((s - t : Nat) : Int) = j - s := by omega
      rw [e1, e2] at this; exact this
  · have := g'.2
    have e1 : i - (t : Int) - (u : Int) = i - ((t + u : Nat) : Int) := by omega
    have e2 : j - (t : Int) - (u : Int) = j - ((t + u : Nat) : Int) := by omega
    rw [e1, e2] at this; exact this
theorem GrowR.all {t u : Nat} (g : GrowR A B p ahi bhi i j t) (g' : GrowR A B (fun _ => true) ahi bhi (i + t) (j + t) u) : GrowR A B (fun _ => true) ahi bhi i j (t + u) := by
  refine ⟨fun s hs => ?_, ?_⟩
  · by_cases h : s < t
    · have := okR_iff.mp (g.1 s h)
      exact okR_iff.mpr ⟨this.1, this.2.1, this.2.2.1, rfl⟩
    · have := g'.1 (s - t) (by omega)
      have e1 : i + (t : Int) + ((s - t : Nat) : Int) = i + s := by omega
      have e2 : j + (t : Int) + ((s - t : Nat) : Int) = j + s := by omega
      rw [e1, e2] at this; exact this
  · have := g'.2
    have e1 : i + (t : Int) + (u : Int) = i + ((t + u : Nat) : Int) := by omega
    have e2 : j + (t : Int) + (u : Int) = j + ((t + u : Nat) : Int) := by omega
    rw [e1, e2] at this; exact this
/-- the longest run is not to be grown over what may match -/
theorem heart_left (a1 : alo ≤ ahi) (b1 : blo ≤ bhi) (h : Heart (eqW A B q alo ahi blo bhi) alo blo i j k) : GrowL A B q alo blo i j 0 := by
  refine ⟨fun s hs => by omega, ?_⟩
  obtain ⟨h1, h2, h3, h4⟩ := heart_in a1 b1 h
  cases e : okL A B q alo blo (i - (0 : Nat)) (j - (0 : Nat)) with
  | false => rfl
  | true =>
    exfalso
    obtain ⟨x1, x2, x3, x4⟩ := okL_iff.mp e
    simp only [Int.natCast_zero, Int.sub_zero] at x1 x2 x3 x4
    have := h.max (i - 1) (j - 1) (k + 1) trivial fun t ht => by
      by_cases ht0 : t = 0
      · subst ht0
        simp only [Int.natCast_zero, Int.add_zero]
        exact eqW_iff.mpr ⟨by omega, by omega, by omega, by omega, x3, x4⟩
      · have := h.run (t - 1) (by omega)
        have e1 : i + ((t - 1 : Nat) : Int) = i - 1 + t := by omega
        have e2 : j + ((t - 1 : Nat) : Int) = j - 1 + t := by omega
        rw [e1, e2] at this; exact this
    omega
theorem heart_right (a1 : alo ≤ ahi) (b1 : blo ≤ bhi) (h : Heart (eqW A B q alo ahi blo bhi) alo blo i j k) : GrowR A B q ahi bhi (i + k) (j + k) 0 := by
  refine ⟨fun s hs => by omega, ?_⟩
  obtain ⟨h1, h2, h3, h4⟩ := heart_in a1 b1 h
  cases e : okR A B q ahi bhi (i + k + (0 : Nat)) (j + k + (0 : Nat)) with
  | false => rfl
  | true =>
    exfalso
    obtain ⟨x1, x2, x3, x4⟩ := okR_iff.mp e
    simp only [Int.natCast_zero, Int.add_zero] at x1 x2 x3 x4
    have := h.max i j (k + 1) trivial fun t ht => by
      by_cases htk : t < k
      · exact h.run t htk
      · have e1 : (t : Int) = k := by omega
        rw [e1]
        exact eqW_iff.mpr ⟨by omega, by omega, by omega, by omega, x3, x4⟩
    omega
/-- junk named: the heart grown over junk -/
theorem told_named (a1 : alo ≤ ahi) (b0 : 0 ≤ blo) (b1 : blo ≤ bhi) {t1 t2 t3 t4 : Nat} (T : Told A B q pj alo ahi blo bhi i j k t1 t2 t3 t4) (hq : ∀ j : Int, blo ≤ j → j < bhi → q (it B j) = !pj (it B j)) :
    t1 = 0 ∧ t2 = 0 ∧ GrowL A B pj alo blo i j t3 ∧ GrowR A B pj ahi bhi (i + k) (j + k) t4 := by
  obtain ⟨h1, h2, h3, h4⟩ := heart_in a1 b1 T.heart
  have e1 : t1 = 0 := (T.g1.congr (bhi := bhi) (p' := q) (fun j x y => (hq j x y).symm) (by omega)).uniq (heart_left a1 b1 T.heart)
  have e2 : t2 = 0 := (T.g2.congr (blo := blo) (p' := q) (fun j x y => (hq j x y).symm) (by omega)).uniq (heart_right a1 b1 T.heart)
  have g3 := T.g3
  have g4 := T.g4
  subst e1 e2
  simp only [Int.natCast_zero, Int.sub_zero, Int.add_zero] at g3 g4
  exact ⟨rfl, rfl, g3, g4⟩
/-- no junk at all: the heart grown over whatever is equal -/
theorem told_free {t1 t2 t3 t4 : Nat} (T : Told A B q pj alo ahi blo bhi i j k t1 t2 t3 t4) (hp : ∀ x, pj x = false) :
    t3 = 0 ∧ t4 = 0 ∧ GrowL A B (fun _ => true) alo blo i j t1 ∧ GrowR A B (fun _ => true) ahi bhi (i + k) (j + k) t2 := by
  have e3 : t3 = 0 := T.g3.uniq (GrowL.nil hp)
  have e4 : t4 = 0 := T.g4.uniq (GrowR.nil hp)
  have e : (fun x => !pj x) = fun _ : Int => true := by funext x; rw [hp]; rfl
  have g1 := T.g1
  have g2 := T.g2
  rw [e] at g1 g2
  exact ⟨e3, e4, g1, g2⟩
end
end Mine

open PySem PySem.W PyProof.Rows
set_option Elab.async false
set_option maxRecDepth 100000
set_option maxHeartbeats 1000000
set_option linter.unusedVariables false
set_option linter.unusedSimpArgs false
namespace Mine
/-! heaps that change at some places -/
def Up (hp hp' : List AO) (ex : List Nat) : Prop := hp.length ≤ hp'.length ∧ ∀ n, n < hp.length → n ∉ ex → hp'[n]? = hp[n]?
theorem Up.refl (hp : List AO) (ex : List Nat) : Up hp hp ex := ⟨Nat.le_refl _, fun _ _ _ => rfl⟩
theorem Up.trans {a b c : List AO} {ex ex' : List Nat} (x : Up a b ex) (y : Up b c ex') (h : ∀ n, n < a.length → n ∈ ex' → n ∈ ex) : Up a c ex :=
  ⟨Nat.le_trans x.1 y.1, fun n hn hx => (y.2 n (Nat.lt_of_lt_of_le hn x.1) fun h' => hx (h n hn h')).trans (x.2 n hn hx)⟩
theorem Up.app {a b : List AO} {ex : List Nat} (x : Up a b ex) (o : List AO) : Up a (b ++ o) ex := ⟨by rw [List.length_append]; have := x.1; omega, fun n hn hx => by rw [List.getElem?_append_left (Nat.lt_of_lt_of_le hn x.1)]; exact x.2 n hn hx⟩
theorem Up.set {a b : List AO} {ex : List Nat} (x : Up a b ex) {n : Nat} (hn : n ∈ ex ∨ a.length ≤ n) (o : AO) : Up a (b.set n o) ex := ⟨by rw [List.length_set]; exact x.1, fun m hm hx => by
  rw [List.getElem?_set_ne (fun e => by subst e; rcases hn with h | h; exact hx h; omega)]; exact x.2 m hm hx⟩
theorem Up.get {a b : List AO} {ex : List Nat} (x : Up a b ex) {n : Nat} {o : AO} (h : a[n]? = some o) (hx : n ∉ ex) : b[n]? = some o := by rw [x.2 n (List.getElem?_eq_some_iff.mp h).1 hx]; exact h
theorem Up.pre {a b : List AO} (x : Up a b []) : Pre a b := ⟨x.1, fun n hn => x.2 n hn (by simp)⟩
theorem get_set_eq {hp : List AO} {n : Nat} {o o' : AO} (h : hp[n]? = some o) : (hp.set n o')[n]? = some o' := List.getElem?_set_self (List.getElem?_eq_some_iff.mp h).1
theorem get_set_ne {hp : List AO} {n m : Nat} {o o' : AO} (h : hp[n]? = some o) (hne : m ≠ n) : (hp.set m o')[n]? = some o := by rw [List.getElem?_set_ne hne]; exact h
theorem get_lt {hp : List AO} {n : Nat} {o : AO} (h : hp[n]? = some o) : n < hp.length := (List.getElem?_eq_some_iff.mp h).1
theorem get_app {hp : List AO} {n : Nat} {o o' : AO} (h : hp[n]? = some o) : (hp ++ [o'])[n]? = some o := by rw [List.getElem?_append_left (get_lt h)]; exact h
/-! what a list has where -/
def posl (B : List Int) : Nat → Int → List Int
  | 0, _ => []
  | i + 1, x => if it B i = x then posl B i x ++ [(i : Int)] else posl B i x
def keysL (B : List Int) : Nat → List Int
  | 0 => []
  | i + 1 => if it B i ∈ keysL B i then keysL B i else keysL B i ++ [it B i]
theorem posl_mem {B : List Int} : ∀ {i : Nat} {x j : Int}, j ∈ posl B i x ↔ 0 ≤ j ∧ j < i ∧ it B j = x
  | 0, x, j => by simp [posl]; omega
  | i + 1, x, j => by
    unfold posl
    split
    · rename_i h
      rw [List.mem_append, posl_mem]
      constructor
      · rintro (⟨a, b, c⟩ | h')
        · exact ⟨a, by omega, c⟩
        · have : j = i := by simpa using h'
          subst this; exact ⟨by omega, by omega, h⟩
      · rintro ⟨a, b, c⟩
        by_cases e : j = i
        · right; simp [e]
        · left; exact ⟨a, by omega, c⟩
    · rename_i h
      rw [posl_mem]
      constructor
      · rintro ⟨a, b, c⟩; exact ⟨a, by omega, c⟩
      · rintro ⟨a, b, c⟩
        by_cases e : j = i
        · rw [e] at c; exact absurd c h
        · exact ⟨a, by omega, c⟩
theorem posl_sorted {B : List Int} : ∀ {i : Nat} {x : Int}, (posl B i x).Pairwise (· < ·)
  | 0, x => .nil
  | i + 1, x => by
    unfold posl
    split
    · refine List.pairwise_append.mpr ⟨posl_sorted, by simp, fun a ha b hb => ?_⟩
      have := (posl_mem.mp ha).2.1
      have : b = i := by simpa using hb
      omega
    · exact posl_sorted
theorem posl_len {B : List Int} : ∀ {i : Nat} {x : Int}, (posl B i x).length ≤ i
  | 0, x => by simp [posl]
  | i + 1, x => by
    have := posl_len (B := B) (i := i) (x := x)
    unfold posl
    split
    · rw [List.length_append]; simp; omega
    · omega
theorem keysL_mem {B : List Int} : ∀ {i : Nat} {x : Int}, x ∈ keysL B i ↔ ∃ j : Nat, j < i ∧ it B j = x
  | 0, x => by simp [keysL]
  | i + 1, x => by
    have ih : ∀ {x : Int}, x ∈ keysL B i ↔ ∃ j : Nat, j < i ∧ it B j = x := keysL_mem
    unfold keysL
    split
    · rename_i h
      rw [ih]
      constructor
      · rintro ⟨j, a, b⟩; exact ⟨j, by omega, b⟩
      · rintro ⟨j, a, b⟩
        by_cases e : j = i
        · subst e; rw [← b]; exact ih.mp h
        · exact ⟨j, by omega, b⟩
    · rw [List.mem_append, ih]
      constructor
      · rintro (⟨j, a, b⟩ | h')
        · exact ⟨j, by omega, b⟩
        · exact ⟨i, by omega, by simpa using Eq.symm (by simpa using h')⟩
      · rintro ⟨j, a, b⟩
        by_cases e : j = i
        · subst e; right; simp [b]
        · left; exact ⟨j, by omega, b⟩
theorem keysL_len {B : List Int} : ∀ {i : Nat}, (keysL B i).length ≤ i
  | 0 => by simp [keysL]
  | i + 1 => by
    have := keysL_len (B := B) (i := i)
    unfold keysL
    split
    · omega
    · rw [List.length_append]; simp; omega
theorem keysL_nodup {B : List Int} : ∀ {i : Nat}, (keysL B i).Nodup
  | 0 => by simp [keysL]
  | i + 1 => by
    unfold keysL
    split
    · exact keysL_nodup
    · rename_i h
      exact List.nodup_append.mpr ⟨keysL_nodup, by simp, fun a ha b hb e => by
        have : b = it B i := by simpa using hb
        rw [this] at e; rw [e] at ha; exact h ha⟩
theorem posl_nil {B : List Int} {i : Nat} {x : Int} (h : x ∉ keysL B i) : posl B i x = [] := by
  cases e : posl B i x with
  | nil => rfl
  | cons j r =>
    have := posl_mem.mp (show j ∈ posl B i x by rw [e]; simp)
    exact absurd (keysL_mem.mpr ⟨j.toNat, by omega, by rw [show ((j.toNat : Nat) : Int) = j by omega]; exact this.2.2⟩) h
theorem posl_succ {B : List Int} {i : Nat} {x : Int} : posl B (i + 1) x = if it B i = x then posl B i x ++ [(i : Int)] else posl B i x := rfl
theorem keysL_succ {B : List Int} {i : Nat} : keysL B (i + 1) = if it B i ∈ keysL B i then keysL B i else keysL B i ++ [it B i] := rfl
theorem getD_mem {D : List (Int × AV)} {x : Int} {v : AV} (h : getD D x = some v) : (x, v) ∈ D := by
  unfold getD at h
  obtain ⟨kv, hkv, rfl⟩ := Option.map_eq_some_iff.mp h
  have := List.find?_some hkv
  have e : kv.1 = x := by simpa using this
  subst e; exact List.mem_of_find?_eq_some hkv
theorem getD_none {D : List (Int × AV)} {x : Int} (h : x ∉ D.map (·.1)) : getD D x = none := by
  cases e : getD D x with
  | none => rfl
  | some v => exact absurd (List.mem_map.mpr ⟨_, getD_mem e, rfl⟩) h
theorem getD_some {D : List (Int × AV)} {x : Int} (h : x ∈ D.map (·.1)) : ∃ v, getD D x = some v := by
  cases e : getD D x with
  | some v => exact ⟨v, rfl⟩
  | none =>
    obtain ⟨kv, hkv, rfl⟩ := List.mem_map.mp h
    unfold getD at e
    have := List.find?_eq_none.mp (Option.map_eq_none_iff.mp e) kv hkv
    simp at this
theorem putD_new {D : List (Int × AV)} {x : Int} {v : AV} (h : x ∉ D.map (·.1)) : putD D x v = D ++ [(x, v)] := by
  unfold putD
  rw [if_neg]
  intro h'
  obtain ⟨kv, hkv, e⟩ := List.any_eq_true.mp h'
  exact h (List.mem_map.mpr ⟨kv, hkv, by simpa using e⟩)
/-! more words of programs -/
theorem wp_setAttr {i n : Nat} {l : List (Option AV)} {v : AV} {P : Unit → St → Prop} {hp : List AO} {lc : List (Option AV)} (h : hp[n]? = some (.inst l)) (hi : i < l.length) (hl : l.length ≤ 100) : Wp (setAttrM i (.ref n) v) P ⟨hp, lc⟩ = P () ⟨hp.set n (.inst (l.set i (some v))), lc⟩ := wp_of (by unfold setAttrM; simp only [h]; rw [if_pos ⟨hi, hl⟩])
theorem wp_setdef_some {n : Nat} {x : Int} {d v : AV} {D : List (Int × AV)} {P : AV → St → Prop} {hp : List AO} {lc : List (Option AV)} (h : hp[n]? = some (.dict D)) (hl : D.length ≤ lim) (hg : getD D x = some v) : Wp (setdefM [.ref n, .int x, d]) P ⟨hp, lc⟩ = P v ⟨hp, lc⟩ := wp_of (by unfold setdefM; simp only [h]; rw [if_pos hl, hg])
theorem wp_setdef_none {n : Nat} {x : Int} {d : AV} {D : List (Int × AV)} {P : AV → St → Prop} {hp : List AO} {lc : List (Option AV)} (h : hp[n]? = some (.dict D)) (hl : D.length ≤ lim) (hg : getD D x = none) : Wp (setdefM [.ref n, .int x, d]) P ⟨hp, lc⟩ = P d ⟨hp.set n (.dict (putD D x d)), lc⟩ := wp_of (by unfold setdefM; simp only [h]; rw [if_pos hl, hg])
theorem wp_append {n : Nat} {v : AV} {l : List AV} {P : AV → St → Prop} {hp : List AO} {lc : List (Option AV)} (h : hp[n]? = some (.list l)) (hl : l.length ≤ lim) : Wp (appendM [.ref n, v]) P ⟨hp, lc⟩ = P .none ⟨hp.set n (.list (l ++ [v])), lc⟩ := wp_of (by unfold appendM; simp only [h]; rw [if_pos hl])
theorem wp_sadd {n : Nat} {x : Int} {S : List Int} {P : AV → St → Prop} {hp : List AO} {lc : List (Option AV)} (h : hp[n]? = some (.set S)) (hx : x ∈ eight) : Wp (saddM [.ref n, .int x]) P ⟨hp, lc⟩ = P .none ⟨hp.set n (.set (insE S x)), lc⟩ := wp_of (by unfold saddM; simp only [h]; rw [if_pos hx])
theorem wp_enum {n : Nat} {l : List AV} {P : Src → St → Prop} {hp : List AO} {lc : List (Option AV)} (h : hp[n]? = some (.list l)) : Wp (enumM [.ref n]) P ⟨hp, lc⟩ = P (.enum n 0) ⟨hp, lc⟩ := wp_of (by unfold enumM; simp only [h])
theorem wp_setM {P : AV → St → Prop} {hp : List AO} {lc : List (Option AV)} : Wp (setM []) P ⟨hp, lc⟩ = P (.ref hp.length) ⟨hp ++ [.set []], lc⟩ := wp_of rfl
theorem wp_lock {n : Nat} {D : List (Int × AV)} {m : List (Int × AV) → M Fl} {P : Fl → St → Prop} {hp : List AO} {lc : List (Option AV)} (h : hp[n]? = some (.dict D)) (hw : Wp (m D) (fun f σ' => P f ⟨σ'.hp.set n (.dict D), σ'.lc⟩) ⟨hp.set n .lock, lc⟩) : Wp (lockM (.ref n) m) P ⟨hp, lc⟩ := by
  obtain ⟨f, σ', e, hP⟩ := hw
  exact ⟨f, _, by unfold lockM; simp only [h, e], hP⟩
theorem wp_delAll {i6 nd i m n : Nat} {S : List Int} {D : List (Int × AV)} {P : Fl → St → Prop} {hp : List AO} {lc : List (Option AV)} (e6 : lc[i6]? = some (some (.ref m))) (e2 : lc[nd]? = some (some (.ref n))) (h6 : hp[m]? = some (.set S)) (h2 : hp[n]? = some (.dict D))
    (hS : ∀ x ∈ S, x ∈ D.map (·.1)) (hl : D.length ≤ lim) (hi : i < lc.length) : Wp (delAllM (ldM i6) nd i) P ⟨hp, lc⟩ = P .next ⟨hp.set n (.dict (D.filter fun kv => decide (kv.1 ∉ S))), lc.set i none⟩ := by
  unfold delAllM
  rw [wp_bind, wp_ld, e6]
  refine wp_of ?_
  simp only [h6, e2, h2]
  rw [if_pos]
  simp only [Bool.and_eq_true, decide_eq_true_eq, List.all_eq_true]
  refine ⟨⟨fun x hx => ?_, hl⟩, hi⟩
  obtain ⟨v, e⟩ := getD_some (hS x hx)
  rw [e]; rfl
theorem filt_small : ∀ (l : List Int) (f : Int → Bool), l.filter f ∈ subs l
  | [], f => by simp [subs]
  | x :: r, f => by
    rw [List.filter_cons]
    unfold subs
    split
    · exact List.mem_append_right _ (List.mem_map.mpr ⟨_, filt_small r f, rfl⟩)
    · exact List.mem_append_left _ (filt_small r f)
theorem insE_filt : ∀ l ∈ small, ∀ k ∈ eight, insE l k = eight.filter (fun y => decide (y ∈ l) || y == k) := by decide +kernel
theorem ins_filter {f g : Int → Bool} {k : Int} (hk : k ∈ eight) (h : ∀ y ∈ eight, g y = (f y || y == k)) : insE (eight.filter f) k = eight.filter g := by
  rw [insE_filt _ (filt_small eight f) k hk]
  refine List.filter_congr fun y hy => ?_
  rw [h y hy]
  congr 1
  by_cases e : f y = true
  · simp [e, hy]
  · have e' : f y = false := by simpa using e
    simp [e']
theorem filter_false {α : Type} {f : α → Bool} {l : List α} (h : ∀ x ∈ l, f x = false) : l.filter f = [] := List.filter_eq_nil_iff.mpr fun x hx => by rw [h x hx]; simp
section
variable {C : Cx} {B : List Int} {hp : List AO} {me ra rb rd rj rp : Nat} {o3 o4 o5 o6 o7 o8 o9 o10 o11 : Option AV}
abbrev cSt (hp : List AO) (me rb rd : Nat) (o3 o4 o5 o6 o7 o8 o9 o10 o11 : Option AV) : St := ⟨hp, [some (.ref me), some (.ref rb), some (.ref rd), o3, o4, o5, o6, o7, o8, o9, o10, o11]⟩
structure BI (hpS : List AO) (rd : Nat) (B : List Int) (i : Nat) (hp : List AO) (D : List (Int × AV)) : Prop where
  up : Up hpS hp [rd]
  rdD : hp[rd]? = some (.dict D)
  mem : ∀ kv ∈ D, ∃ p, kv.2 = .ref p ∧ hpS.length ≤ p ∧ hp[p]? = some (.list (intsL (posl B i kv.1)))
  uq : ∀ a ∈ D, ∀ b ∈ D, (a.2 = b.2 ↔ a.1 = b.1)
  keys : D.map (·.1) = keysL B i
theorem intsL_get {B : List Int} {i : Nat} (h : i < (intsL B).length) : (intsL B)[i] = .int (it B i) := by
  have h' : i < B.length := by unfold intsL at h; rwa [List.length_map] at h
  have e : (intsL B)[i] = .int B[i] := List.getElem_map (AV.int)
  rw [e]
  unfold it
  simp [List.getD, List.getElem?_eq_getElem h']
theorem intsL_app {a b : List Int} : intsL (a ++ b) = intsL a ++ intsL b := by unfold intsL; simp
theorem intsL_length {a : List Int} : (intsL a).length = a.length := by unfold intsL; simp
theorem BI.step {hpS : List AO} {i : Nat} {D : List (Int × AV)} (hrd : rd < hpS.length) (I : BI hpS rd B i hp D) :
    (∀ v, getD D (it B i) = some v → ∃ p, v = .ref p ∧ hp[p]? = some (.list (intsL (posl B i (it B i)))) ∧ BI hpS rd B (i + 1) ((hp ++ [AO.list []]).set p (AO.list (intsL (posl B i (it B i)) ++ [AV.int i]))) D) ∧
    (getD D (it B i) = none → BI hpS rd B (i + 1) (((hp ++ [AO.list []]).set rd (AO.dict (putD D (it B i) (.ref hp.length)))).set hp.length (AO.list ([] ++ [AV.int i]))) (putD D (it B i) (.ref hp.length))) := by
  have hle := I.up.1
  refine ⟨fun v hv => ?_, fun hn => ?_⟩
  · have hm := getD_mem hv
    obtain ⟨p, rfl, hp1, hp2⟩ := I.mem _ hm
    refine ⟨p, rfl, hp2, ?_⟩
    have hk : it B i ∈ keysL B i := by rw [← I.keys]; exact List.mem_map.mpr ⟨_, hm, rfl⟩
    refine ⟨(I.up.app _).set (.inr hp1) _, get_set_ne (get_app I.rdD) (by omega), fun kv hkv => ?_, I.uq, by rw [I.keys, keysL_succ, if_pos hk]⟩
    obtain ⟨p', e', hp1', hp2'⟩ := I.mem kv hkv
    have u := I.uq kv hkv _ hm
    refine ⟨p', e', hp1', ?_⟩
    by_cases e : kv.1 = it B i
    · have e2 := u.mpr e
      rw [e'] at e2
      cases e2
      rw [e]
      rw [posl_succ, if_pos rfl, intsL_app]
      exact get_set_eq (get_app hp2)
    · have hne : p ≠ p' := fun h => e (u.mp (by rw [e', h]))
      rw [posl_succ, if_neg (fun h => e h.symm)]
      exact get_set_ne (get_app hp2') hne
  · have hk : it B i ∉ D.map (·.1) := fun h => by obtain ⟨v, e⟩ := getD_some h; rw [hn] at e; cases e
    rw [putD_new hk]
    have hk' : it B i ∉ keysL B i := by rw [← I.keys]; exact hk
    refine ⟨((I.up.app _).set (.inl (by simp)) _).set (.inr hle) _, ?_, fun kv hkv => ?_, fun a ha b hb => ?_, ?_⟩
    · rw [List.getElem?_set_ne (by omega)]; exact get_set_eq (get_app I.rdD)
    · rcases List.mem_append.mp hkv with h | h
      · obtain ⟨p', e', hp1', hp2'⟩ := I.mem kv h
        refine ⟨p', e', hp1', ?_⟩
        have hne : kv.1 ≠ it B i := fun e => hk (e ▸ List.mem_map.mpr ⟨_, h, rfl⟩)
        rw [posl_succ, if_neg hne.symm]
        have := get_lt hp2'
        rw [List.getElem?_set_ne (by omega), List.getElem?_set_ne (by omega)]
        exact get_app hp2'
      · have e : kv = (it B i, .ref hp.length) := by simpa using h
        subst e
        refine ⟨hp.length, rfl, hle, ?_⟩
        rw [posl_succ, if_pos rfl, posl_nil hk']
        exact List.getElem?_set_self (by simp)
    · rcases List.mem_append.mp ha with ha | ha <;> rcases List.mem_append.mp hb with hb | hb
      · exact I.uq a ha b hb
      · have e : b = (it B i, .ref hp.length) := by simpa using hb
        subst e
        obtain ⟨p', e', hp1', hp2'⟩ := I.mem a ha
        have := get_lt hp2'
        constructor
        · intro h; rw [e'] at h; cases h; omega
        · intro h; exact absurd (List.mem_map.mpr ⟨_, ha, h⟩) hk
      · have e : a = (it B i, .ref hp.length) := by simpa using ha
        subst e
        obtain ⟨p', e', hp1', hp2'⟩ := I.mem b hb
        have := get_lt hp2'
        constructor
        · intro h; rw [e'] at h; cases h; omega
        · intro h; exact absurd (List.mem_map.mpr ⟨_, hb, h.symm⟩) hk
      · have e1 : a = (it B i, .ref hp.length) := by simpa using ha
        have e2 : b = (it B i, .ref hp.length) := by simpa using hb
        rw [e1, e2]; simp
    · rw [List.map_append, I.keys]
      rw [keysL_succ, if_neg hk']
      rfl
theorem chain_p1 {hpS : List AO} (hB : hpS[rb]? = some (.list (intsL B))) (hD : hpS[rd]? = some (.dict [])) (lB : B.length ≤ 100000) (hne : rb ≠ rd) {P : Fl → St → Prop}
    (hP : ∀ hp D o3 o4 o5, BI hpS rd B B.length hp D → P .next (cSt hp me rb rd o3 o4 o5 o6 o7 o8 o9 o10 o11)) :
    Wp (forM' fuel (.enum rb 0) (unpM 2 (asCons (stM 3) (asCons (stM 4) asNil))) (m_chain_b_b1 C)) P (cSt hpS me rb rd o3 o4 o5 o6 o7 o8 o9 o10 o11) := by
  have hlim : lim = 1000000 := rfl
  have hfu : fuel = 2000000 := rfl
  refine wp_for_enum (fun i σ' => ∃ hp D o3 o4 o5, σ' = cSt hp me rb rd o3 o4 o5 o6 o7 o8 o9 o10 o11 ∧ BI hpS rd B i hp D) rb (intsL B) ?_ ?_ ?_ (intsL B).length 0 fuel _ (by simp) (by rw [intsL_length, hfu]; omega)
    ⟨_, [], _, _, _, rfl, ⟨Up.refl _ _, hD, fun kv h => by simp at h, fun a h => by simp at h, rfl⟩⟩
  · rintro i σ' ⟨hp, D, o3, o4, o5, rfl, I⟩
    exact I.up.get hB (by simp; exact hne)
  · rintro i hi σ' ⟨hp, D, o3, o4, o5, rfl, I⟩
    have hi' : i < B.length := by rwa [intsL_length] at hi
    have hDl : D.length ≤ i := by rw [← List.length_map (f := (·.1)), I.keys]; exact keysL_len
    rw [intsL_get hi]
    unfold cSt m_chain_b_b1
    have st := I.step (get_lt hD)
    have hap : (hp ++ [.list []] : List AO)[rd]? = some (.dict D) := get_app I.rdD
    cases hg : getD D (it B i) with
    | some v =>
      obtain ⟨p, rfl, hp2, I'⟩ := st.1 v hg
      have hpp : (hp ++ [.list []] : List AO)[p]? = some (.list (intsL (posl B i (it B i)))) := get_app hp2
      have hl := posl_len (B := B) (i := i) (x := it B i)
      simp only [wp_bind, wp_pure, wp_ld, wp_st, wp_add, wp_iadd, wp_sub, wp_lt, wp_gt, wp_le, wp_ge, wp_eqI, wp_neI, wp_tup, wp_asCons, wp_asNil, wp_then, wp_thenR, wp_thenC, wp_thenB, List.getElem?_cons_zero, List.getElem?_cons_succ, List.set_cons_zero, List.set_cons_succ, wp_unp (n := 2) (l := [_, _]) rfl, wp_chk (T := "dict") I.rdD rfl, wp_list, wp_setdef_some hap (show D.length ≤ lim by omega) hg, wp_chk (T := "list") hpp rfl, wp_append hpp (show (intsL (posl B i (it B i))).length ≤ lim by rw [intsL_length]; omega), List.length_nil]
      exact ⟨by omega, .inl ⟨.inl trivial, _, D, _, _, _, rfl, I'⟩⟩
    | none =>
      have I' := st.2 hg
      have hpp : ((hp ++ [.list []] : List AO).set rd (.dict (putD D (it B i) (.ref hp.length))))[hp.length]? = some (.list []) := by
        have := get_lt hD
        have := I.up.1
        rw [List.getElem?_set_ne (by omega)]; simp
      simp only [wp_bind, wp_pure, wp_ld, wp_st, wp_add, wp_iadd, wp_sub, wp_lt, wp_gt, wp_le, wp_ge, wp_eqI, wp_neI, wp_tup, wp_asCons, wp_asNil, wp_then, wp_thenR, wp_thenC, wp_thenB, List.getElem?_cons_zero, List.getElem?_cons_succ, List.set_cons_zero, List.set_cons_succ, wp_unp (n := 2) (l := [_, _]) rfl, wp_chk (T := "dict") I.rdD rfl, wp_list, wp_setdef_none hap (show D.length ≤ lim by omega) hg, wp_chk (T := "list") hpp rfl, wp_append hpp (show ([] : List AV).length ≤ lim by simp), List.length_nil]
      exact ⟨by omega, .inl ⟨.inl trivial, _, _, _, _, _, rfl, I'⟩⟩
  · rintro σ' ⟨hp, D, o3, o4, o5, rfl, I⟩
    rw [intsL_length] at I
    exact hP hp D o3 o4 o5 I
end
end Mine

open PySem PySem.W PyProof.Rows
set_option Elab.async false
set_option maxRecDepth 100000
set_option maxHeartbeats 1000000
set_option linter.unusedVariables false
set_option linter.unusedSimpArgs false
namespace Mine
theorem wp_div {a b : Int} {P : AV → St → Prop} {σ : St} (h : 0 < b ∧ b ≤ 1000000) : Wp (divM (.int a) (.int b)) P σ = P (.int (a / b)) σ := wp_of (by unfold divM; simp only [h]; rfl)
noncomputable def chJ (C : Cx) : M Fl := do let f ← (do let a ← (ldM 2); lockM a fun l => forM' fuel (.fixed (l.map fun kv => .int kv.1)) (stM 4) (m_chain_b_b2 C)); thenM f (do let f ← (delAllM (ldM 6) 2 4); thenM f (pure .next))
noncomputable def chP (C : Cx) : M Fl := do let f ← (do let a ← (ldM 2); lockM a fun l => forM' fuel (.fixed (l.map fun kv => .tup [.int kv.1, kv.2])) (unpM 2 (asCons (stM 4) (asCons (stM 11) asNil))) (m_chain_b_b3 C)); thenM f (do let f ← (delAllM (ldM 8) 2 4); thenM f (pure .next))
noncomputable def chT3 (C : Cx) : M Fl := do let f ← (do let a ← (do let l ← (pure []); setM l); (fun v => do let a ← (ldM 0); setAttrM 9 a v) a; (stM 8) a; pure .next); thenM f (do let f ← (do let a ← (do let l ← (do let a ← (ldM 1); let l ← (pure []); pure (a :: l)); lenM l); (stM 9) a; pure .next); thenM f (do let f ← (do let b ← (do let b ← (do let a ← (do let a ← (ldM 0); attrM 3 a); truthM C a); if b then (do let b ← (do let a ← (ldM 9); let b ← (pure (.int 200)); geM a b); if b then (pure true) else pure false) else pure false); if b then (do let f ← (do let a ← (do let a ← (do let a ← (ldM 9); let b ← (pure (.int 100)); divM a b); let b ← (pure (.int 1)); addM a b); (stM 10) a; pure .next); thenM f (chP C)) else (pure .next)); thenM f (pure .next)))
noncomputable def chT2 (C : Cx) : M Fl := do let f ← (do let a ← (do let l ← (pure []); setM l); (fun v => do let a ← (ldM 0); setAttrM 8 a v) a; (stM 6) a; pure .next); thenM f (do let f ← (do let a ← (do let a ← (ldM 0); attrM 0 a); (stM 7) a; pure .next); thenM f (do let f ← (do let b ← (do let a ← (ldM 7); truthM C a); if b then (chJ C) else (pure .next)); thenM f (chT3 C)))
/-- the filter, as a test of kinds -/
def JunkIs (C : Cx) (jv : AV) (jf : Int → Bool) : Prop := (jv = .none ∧ ∀ x, jf x = false) ∨ ((hOk jv = true ∧ ∀ hp lc (P : Bool → St → Prop), Wp (truthM C jv) P ⟨hp, lc⟩ = P true ⟨hp, lc⟩) ∧ ∀ hp lc x (P : Bool → St → Prop), Wp (appM (FJ C) jv [.int x]) (fun a σ' => Wp (truthM C a) P σ') ⟨hp, lc⟩ = P (jf x) ⟨hp, lc⟩)
theorem filt_ins {f : Int → Bool} {pre : List Int} {x : Int} (hx : f x = true → x ∈ eight) : (if f x = true then insE (eight.filter fun y => decide (y ∈ pre) && f y) x else eight.filter fun y => decide (y ∈ pre) && f y) = eight.filter fun y => decide (y ∈ pre ++ [x]) && f y := by
  split
  · rename_i h
    refine ins_filter (hx h) fun y _ => ?_
    by_cases e : y = x
    · subst e; simp [h]
    · simp [e]
  · rename_i h
    refine List.filter_congr fun y _ => ?_
    by_cases e : y = x
    · subst e; simp [h]
    · simp [e]
theorem filt_notin {D : List (Int × AV)} {f : Int → Bool} (h8 : ∀ x ∈ D.map (·.1), f x = true → x ∈ eight) : (D.filter fun kv => decide (kv.1 ∉ eight.filter fun x => decide (x ∈ D.map (·.1)) && f x)) = D.filter fun kv => !f kv.1 := by
  refine List.filter_congr fun kv hkv => ?_
  have hm : kv.1 ∈ D.map (·.1) := List.mem_map.mpr ⟨_, hkv, rfl⟩
  cases hf : f kv.1 with
  | false => simp [List.mem_filter, hf]
  | true =>
    have := h8 _ hm hf
    have hm' := hm
    simp only [List.mem_filter, hf, this, hm', decide_true, Bool.and_true, true_and, not_true_eq_false, decide_false, Bool.not_true]
section
variable {C : Cx} {B : List Int} {H : List AO} {D : List (Int × AV)} {me ra rb rd rj rp : Nat} {o3 o4 o5 o6 o7 o8 o9 o10 o11 : Option AV} {jv : AV} {jf : Int → Bool}
theorem wp_chJ (hd : H[rd]? = some (.dict D)) (hj : H[rj]? = some (.set [])) (hne : rd ≠ rj) (hl : D.length ≤ 100000) (app : ∀ hp lc x (P : Bool → St → Prop), Wp (appM (FJ C) jv [.int x]) (fun a σ' => Wp (truthM C a) P σ') ⟨hp, lc⟩ = P (jf x) ⟨hp, lc⟩)
    (h8 : ∀ x ∈ D.map (·.1), jf x = true → x ∈ eight) {P : Fl → St → Prop}
    (hP : ∀ hp' o4, Up H hp' [rd, rj] → hp'[rd]? = some (.dict (D.filter fun kv => !jf kv.1)) → hp'[rj]? = some (.set (eight.filter fun x => decide (x ∈ D.map (·.1)) && jf x)) → P .next (cSt hp' me rb rd o3 o4 o5 (some (.ref rj)) (some jv) o8 o9 o10 o11)) :
    Wp (chJ C) P (cSt H me rb rd o3 o4 o5 (some (.ref rj)) (some jv) o8 o9 o10 o11) := by
  have hlim : lim = 1000000 := rfl
  have hfu : fuel = 2000000 := rfl
  unfold chJ cSt
  rw [wp_bind, wp_bind, wp_ld]
  refine wp_lock hd ?_
  have up0 : Up H (H.set rd .lock) [rd, rj] := (Up.refl _ _).set (.inl (by simp)) _
  refine wp_for_fixed (fun r σ' => ∃ (pre rest : List Int) (hp' : List AO) (o4 : Option AV), r = rest.map .int ∧ D.map (·.1) = pre ++ rest ∧ σ' = cSt hp' me rb rd o3 o4 o5 (some (.ref rj)) (some jv) o8 o9 o10 o11 ∧ Up H hp' [rd, rj] ∧ hp'[rj]? = some (.set (eight.filter fun x => decide (x ∈ pre) && jf x))) ?_ ?_ _ fuel _ (by rw [List.length_map, hfu]; omega)
    ⟨[], D.map (·.1), _, o4, by rw [List.map_map]; rfl, rfl, rfl, up0, by rw [List.getElem?_set_ne hne, hj, filter_false (fun x _ => by simp)]⟩
  · rintro a r σ' ⟨pre, rest, hp', o4', hr, hpr, rfl, up, hS⟩
    cases rest with
    | nil => simp at hr
    | cons x rest =>
      simp only [List.map_cons, List.cons.injEq] at hr
      obtain ⟨rfl, rfl⟩ := hr
      have hx : x ∈ D.map (·.1) := by rw [hpr]; simp
      have fi := filt_ins (f := jf) (pre := pre) (h8 x hx)
      unfold cSt m_chain_b_b2
      simp only [wp_bind, wp_pure, wp_ld, wp_st, wp_then, List.getElem?_cons_zero, List.getElem?_cons_succ, List.set_cons_zero, List.set_cons_succ, app, wp_ite]
      cases hf : jf x with
      | true =>
        rw [hf, if_pos rfl] at fi
        simp only [wp_bind, wp_pure, wp_ld, wp_st, wp_add, wp_iadd, wp_sub, wp_lt, wp_gt, wp_le, wp_ge, wp_eqI, wp_neI, wp_tup, wp_asCons, wp_asNil, wp_then, wp_thenR, wp_thenC, wp_thenB, List.getElem?_cons_zero, List.getElem?_cons_succ, List.set_cons_zero, List.set_cons_succ, if_true, wp_chk (T := "set") hS rfl, wp_sadd hS (h8 x hx hf), fi]
        exact .inl ⟨.inl trivial, pre ++ [x], rest, _, _, rfl, by rw [hpr]; simp, rfl, up.set (.inl (by simp)) _, get_set_eq hS⟩
      | false =>
        rw [hf, if_neg (by simp)] at fi
        simp only [wp_bind, wp_pure, wp_ld, wp_st, wp_add, wp_iadd, wp_sub, wp_lt, wp_gt, wp_le, wp_ge, wp_eqI, wp_neI, wp_tup, wp_asCons, wp_asNil, wp_then, wp_thenR, wp_thenC, wp_thenB, List.getElem?_cons_zero, List.getElem?_cons_succ, List.set_cons_zero, List.set_cons_succ, Bool.false_eq_true, if_false]
        exact .inl ⟨.inl trivial, pre ++ [x], rest, _, _, rfl, by rw [hpr]; simp, rfl, up, by rw [hS, fi]⟩
  · rintro σ' ⟨pre, rest, hp', o4', hr, hpr, rfl, up, hS⟩
    have hrest : rest = [] := by cases rest with | nil => rfl | cons _ _ => simp at hr
    subst hrest
    rw [List.append_nil] at hpr
    subst hpr
    unfold cSt
    have hrd : rd < hp'.length := Nat.lt_of_lt_of_le (get_lt hd) up.1
    have hd' : (hp'.set rd (.dict D))[rd]? = some (.dict D) := List.getElem?_set_self hrd
    have hS' : (hp'.set rd (.dict D))[rj]? = some (.set (eight.filter fun x => decide (x ∈ D.map (·.1)) && jf x)) := by rw [List.getElem?_set_ne hne]; exact hS
    rw [wp_then, wp_bind, wp_delAll rfl rfl hS' hd' (fun x hx => by
      have := (List.mem_filter.mp hx).2
      simp only [Bool.and_eq_true, decide_eq_true_eq] at this
      exact this.1) (show D.length ≤ lim by omega) (by simp), wp_then, wp_pure, filt_notin h8]
    simp only [List.set_cons_zero, List.set_cons_succ]
    exact hP _ none ((up.set (.inl (by simp)) _).set (.inl (by simp)) _) (get_set_eq hd') (get_set_ne hS' hne)
theorem wp_chP {ql : Int → List Int} {nt : Int} (hd : H[rd]? = some (.dict D)) (hj : H[rp]? = some (.set [])) (hne : rd ≠ rp) (hl : D.length ≤ 100000) (hm : ∀ kv ∈ D, ∃ p, kv.2 = .ref p ∧ H[p]? = some (.list (intsL (ql kv.1)))) (hq : ∀ x, (ql x).length ≤ 1000000)
    (h8 : ∀ x ∈ D.map (·.1), decide (nt < ((ql x).length : Int)) = true → x ∈ eight) {P : Fl → St → Prop}
    (hP : ∀ hp' o4 o11, Up H hp' [rd, rp] → hp'[rd]? = some (.dict (D.filter fun kv => !decide (nt < ((ql kv.1).length : Int)))) → hp'[rp]? = some (.set (eight.filter fun x => decide (x ∈ D.map (·.1)) && decide (nt < ((ql x).length : Int)))) → P .next (cSt hp' me rb rd o3 o4 o5 o6 o7 (some (.ref rp)) o9 (some (.int nt)) o11)) :
    Wp (chP C) P (cSt H me rb rd o3 o4 o5 o6 o7 (some (.ref rp)) o9 (some (.int nt)) o11) := by
  have hlim : lim = 1000000 := rfl
  have hfu : fuel = 2000000 := rfl
  unfold chP cSt
  rw [wp_bind, wp_bind, wp_ld]
  refine wp_lock hd ?_
  have up0 : Up H (H.set rd .lock) [rd, rp] := (Up.refl _ _).set (.inl (by simp)) _
  refine wp_for_fixed (fun r σ' => ∃ (pre rest : List (Int × AV)) (hp' : List AO) (o4 o11 : Option AV), r = rest.map (fun kv => .tup [.int kv.1, kv.2]) ∧ D = pre ++ rest ∧ σ' = cSt hp' me rb rd o3 o4 o5 o6 o7 (some (.ref rp)) o9 (some (.int nt)) o11 ∧ Up H hp' [rd, rp] ∧ hp'[rp]? = some (.set (eight.filter fun x => decide (x ∈ pre.map (·.1)) && decide (nt < ((ql x).length : Int))))) ?_ ?_ _ fuel _ (by rw [List.length_map, hfu]; omega)
    ⟨[], D, _, o4, o11, rfl, rfl, rfl, up0, by rw [List.getElem?_set_ne hne, hj, filter_false (fun x _ => by simp)]⟩
  · rintro a r σ' ⟨pre, rest, hp', o4', o11', hr, hpr, rfl, up, hS⟩
    cases rest with
    | nil => simp at hr
    | cons kv rest =>
      obtain ⟨x, v⟩ := kv
      simp only [List.map_cons, List.cons.injEq] at hr
      obtain ⟨rfl, rfl⟩ := hr
      have hkv : (x, v) ∈ D := by rw [hpr]; simp
      have hx : x ∈ D.map (·.1) := List.mem_map.mpr ⟨_, hkv, rfl⟩
      obtain ⟨p, e, hp⟩ := hm _ hkv
      dsimp only at e hp
      subst e
      have hne1 : p ≠ rd := fun e => by rw [e, hd] at hp; cases hp
      have hne2 : p ≠ rp := fun e => by rw [e, hj] at hp; cases hp
      have hp2 : hp'[p]? = some (.list (intsL (ql x))) := up.get hp (by simp; exact ⟨hne1, hne2⟩)
      have fi := filt_ins (f := fun x => decide (nt < ((ql x).length : Int))) (pre := pre.map (·.1)) (h8 x hx)
      unfold cSt m_chain_b_b3
      simp only [wp_bind, wp_pure, wp_ld, wp_st, wp_add, wp_iadd, wp_sub, wp_lt, wp_gt, wp_le, wp_ge, wp_eqI, wp_neI, wp_tup, wp_asCons, wp_asNil, wp_then, wp_thenR, wp_thenC, wp_thenB, List.getElem?_cons_zero, List.getElem?_cons_succ, List.set_cons_zero, List.set_cons_succ, wp_unp (n := 2) (l := [_, _]) rfl, wp_lenL hp2 (show (intsL (ql x)).length ≤ 1000000 by rw [intsL_length]; exact hq x), intsL_length, wp_ite]
      cases hf : decide (nt < ((ql x).length : Int)) with
      | true =>
        simp only [hf, if_true] at fi
        simp only [wp_bind, wp_pure, wp_ld, wp_st, wp_add, wp_iadd, wp_sub, wp_lt, wp_gt, wp_le, wp_ge, wp_eqI, wp_neI, wp_tup, wp_asCons, wp_asNil, wp_then, wp_thenR, wp_thenC, wp_thenB, List.getElem?_cons_zero, List.getElem?_cons_succ, List.set_cons_zero, List.set_cons_succ, if_true, wp_chk (T := "set") hS rfl, wp_sadd hS (h8 x hx hf), fi]
        exact .inl ⟨.inl trivial, pre ++ [(x, .ref p)], rest, _, _, _, rfl, by rw [hpr]; simp, rfl, up.set (.inl (by simp)) _, by rw [List.map_append]; exact get_set_eq hS⟩
      | false =>
        simp only [hf, Bool.false_eq_true, if_false] at fi
        simp only [wp_bind, wp_pure, wp_ld, wp_st, wp_add, wp_iadd, wp_sub, wp_lt, wp_gt, wp_le, wp_ge, wp_eqI, wp_neI, wp_tup, wp_asCons, wp_asNil, wp_then, wp_thenR, wp_thenC, wp_thenB, List.getElem?_cons_zero, List.getElem?_cons_succ, List.set_cons_zero, List.set_cons_succ, Bool.false_eq_true, if_false]
        exact .inl ⟨.inl trivial, pre ++ [(x, .ref p)], rest, _, _, _, rfl, by rw [hpr]; simp, rfl, up, by rw [List.map_append, hS, fi]; rfl⟩
  · rintro σ' ⟨pre, rest, hp', o4', o11', hr, hpr, rfl, up, hS⟩
    have hrest : rest = [] := by cases rest with | nil => rfl | cons _ _ => simp at hr
    subst hrest
    rw [List.append_nil] at hpr
    subst hpr
    unfold cSt
    have hrd : rd < hp'.length := Nat.lt_of_lt_of_le (get_lt hd) up.1
    have hd' : (hp'.set rd (.dict D))[rd]? = some (.dict D) := List.getElem?_set_self hrd
    have hS' : (hp'.set rd (.dict D))[rp]? = some (.set (eight.filter fun x => decide (x ∈ D.map (·.1)) && decide (nt < ((ql x).length : Int)))) := by rw [List.getElem?_set_ne hne]; exact hS
    rw [wp_then, wp_bind, wp_delAll rfl rfl hS' hd' (fun x hx => by
      have := (List.mem_filter.mp hx).2
      simp only [Bool.and_eq_true, decide_eq_true_eq] at this
      exact this.1) (show D.length ≤ lim by omega) (by simp), wp_then, wp_pure, filt_notin h8]
    simp only [List.set_cons_zero, List.set_cons_succ]
    exact hP _ none _ ((up.set (.inl (by simp)) _).set (.inl (by simp)) _) (get_set_eq hd') (get_set_ne hS' hne)
/-- which items are popular -/
def popF (aj : Bool) (n : Nat) (ql : Int → List Int) (x : Int) : Bool := (aj && decide (200 ≤ (n : Int))) && decide ((n : Int) / 100 + 1 < ((ql x).length : Int))
theorem wp_chT3 {l : List (Option AV)} {aj : Bool} {ql : Int → List Int} (hme : H[me]? = some (.inst l)) (hl10 : l.length = 10) (haj : l[3]? = some (some (.bool aj))) (hB : H[rb]? = some (.list (intsL B))) (lB : B.length ≤ 100000) (hd : H[rd]? = some (.dict D)) (hl : D.length ≤ 100000)
    (hm : ∀ kv ∈ D, ∃ p, kv.2 = .ref p ∧ H[p]? = some (.list (intsL (ql kv.1)))) (hq : ∀ x, (ql x).length ≤ 1000000)
    (h8 : ∀ x ∈ D.map (·.1), popF aj B.length ql x = true → x ∈ eight) {P : Fl → St → Prop}
    (hP : ∀ hp' rp σ', Up H hp' [me, rd] → hp'[me]? = some (.inst (l.set 9 (some (.ref rp)))) → hp'[rd]? = some (.dict (D.filter fun kv => !popF aj B.length ql kv.1)) → hp'[rp]? = some (.set (eight.filter fun x => decide (x ∈ D.map (·.1)) && popF aj B.length ql x)) → σ'.hp = hp' → P .next σ') :
    Wp (chT3 C) P (cSt H me rb rd o3 o4 o5 o6 o7 o8 o9 o10 o11) := by
  have hlim : lim = 1000000 := rfl
  have hmd : me ≠ rd := fun e => by rw [e, hd] at hme; cases hme
  have hmb : me ≠ rb := fun e => by rw [e, hB] at hme; cases hme
  have hme0 := get_lt hme
  have hrd0 := get_lt hd
  have hme1 : (H ++ [.set []] : List AO)[me]? = some (.inst l) := get_app hme
  let H2 : List AO := (H ++ [AO.set []]).set me (.inst (l.set 9 (some (.ref H.length))))
  have hme2 : H2[me]? = some (.inst (l.set 9 (some (.ref H.length)))) := get_set_eq hme1
  have hB2 : H2[rb]? = some (.list (intsL B)) := get_set_ne (get_app hB) hmb
  have hd2 : H2[rd]? = some (.dict D) := get_set_ne (get_app hd) hmd
  have hp2 : H2[H.length]? = some (.set []) := by
    show ((H ++ [AO.set []]).set me _)[H.length]? = _
    rw [List.getElem?_set_ne (by omega)]; simp
  have haj2 : (l.set 9 (some (.ref H.length)))[3]? = some (some (.bool aj)) := by rw [List.getElem?_set_ne (by decide)]; exact haj
  have up2 : Up H H2 [me, rd] := ((Up.refl H _).app _).set (.inl (by simp)) _
  have hm2 : ∀ kv ∈ D, ∃ p, kv.2 = .ref p ∧ H2[p]? = some (.list (intsL (ql kv.1))) := fun kv hkv => by
    obtain ⟨p, e, hp⟩ := hm kv hkv
    exact ⟨p, e, get_set_ne (get_app hp) fun e' => by rw [← e', hme] at hp; cases hp⟩
  have nop : ∀ {c : Bool}, (aj && decide (200 ≤ (B.length : Int))) = false → (D.filter fun kv => !popF aj B.length ql kv.1) = D ∧ (eight.filter fun x => decide (x ∈ D.map (·.1)) && popF aj B.length ql x) = [] := fun {c} h => by
    refine ⟨List.filter_eq_self.mpr fun kv _ => by unfold popF; rw [h]; rfl, filter_false fun x _ => by unfold popF; rw [h]; simp⟩
  have skip : (aj && decide (200 ≤ (B.length : Int))) = false → ∀ σ', σ'.hp = H2 → P .next σ' := fun h σ' hσ => by
    obtain ⟨e1, e2⟩ := nop (c := true) h
    exact hP H2 H.length σ' up2 hme2 (by rw [e1]; exact hd2) (by rw [e2]; exact hp2) hσ
  unfold chT3 cSt
  have hH2 : (H ++ [.set []] : List AO).set me (.inst (l.set 9 (some (.ref H.length)))) = H2 := rfl
  simp only [wp_bind, wp_pure, wp_ld, wp_st, wp_add, wp_iadd, wp_sub, wp_lt, wp_gt, wp_le, wp_ge, wp_eqI, wp_neI, wp_tup, wp_asCons, wp_asNil, wp_then, wp_thenR, wp_thenC, wp_thenB, List.getElem?_cons_zero, List.getElem?_cons_succ, List.set_cons_zero, List.set_cons_succ, wp_setM, wp_setAttr hme1 (show 9 < l.length by omega) (show l.length ≤ 100 by omega), hH2, wp_lenL hB2 (show (intsL B).length ≤ 1000000 by rw [intsL_length]; omega), intsL_length, wp_attr hme2 haj2 rfl, wp_truB, wp_ite]
  cases aj with
  | false =>
    simp only [wp_bind, wp_pure, wp_ld, wp_st, wp_add, wp_iadd, wp_sub, wp_lt, wp_gt, wp_le, wp_ge, wp_eqI, wp_neI, wp_tup, wp_asCons, wp_asNil, wp_then, wp_thenR, wp_thenC, wp_thenB, List.getElem?_cons_zero, List.getElem?_cons_succ, List.set_cons_zero, List.set_cons_succ, Bool.false_eq_true, if_false]
    exact skip rfl _ rfl
  | true =>
    by_cases hn : 200 ≤ (B.length : Int)
    · have ep : ∀ x, popF true B.length ql x = decide ((B.length : Int) / 100 + 1 < ((ql x).length : Int)) := fun x => by unfold popF; simp only [hn, decide_true, Bool.true_and]
      simp only [hn, decide_true, if_true, wp_bind, wp_pure, wp_ld, wp_st, wp_add, wp_iadd, wp_sub, wp_lt, wp_gt, wp_le, wp_ge, wp_eqI, wp_neI, wp_tup, wp_asCons, wp_asNil, wp_then, wp_thenR, wp_thenC, wp_thenB, List.getElem?_cons_zero, List.getElem?_cons_succ, List.set_cons_zero, List.set_cons_succ, wp_div (show (0 : Int) < 100 ∧ (100 : Int) ≤ 1000000 by decide)]
      refine wp_chP (me := me) (rb := rb) (o3 := o3) (o4 := o4) (o5 := o5) (o6 := o6) (o7 := o7) (o9 := some (.int B.length)) (o11 := o11) hd2 hp2 (by omega) hl hm2 hq (fun x hx h => h8 x hx (by rw [ep]; exact h)) fun hp' o4' o11' up' h1 h2 => ?_
      simp only [wp_then, wp_pure]
      refine hP hp' H.length _ (up2.trans up' fun n hn hx => ?_) (up'.get hme2 (by simp; omega)) ?_ ?_ rfl
      · simp at hx ⊢; omega
      · simp only [ep]; exact h1
      · simp only [ep]; exact h2
    · simp only [hn, decide_false, if_true, wp_bind, wp_pure, wp_ld, wp_st, wp_add, wp_iadd, wp_sub, wp_lt, wp_gt, wp_le, wp_ge, wp_eqI, wp_neI, wp_tup, wp_asCons, wp_asNil, wp_then, wp_thenR, wp_thenC, wp_thenB, List.getElem?_cons_zero, List.getElem?_cons_succ, List.set_cons_zero, List.set_cons_succ, Bool.false_eq_true, if_false]
      exact skip (by simp [hn]) _ rfl
end
end Mine

open PySem PySem.W PyProof.Rows
set_option Elab.async false
set_option maxRecDepth 100000
set_option maxHeartbeats 1000000
set_option linter.unusedVariables false
set_option linter.unusedSimpArgs false
namespace Mine
/-- a matcher's index of places, made from heap hp (the matcher at me) -/
structure Built (hp hp' : List AO) (me rd rj rp : Nat) (l : List (Option AV)) (B : List Int) (jf pf : Int → Bool) (D : List (Int × AV)) : Prop where
  up : Up hp hp' [me]
  hme : hp'[me]? = some (.inst (((l.set 7 (some (.ref rd))).set 8 (some (.ref rj))).set 9 (some (.ref rp))))
  hd : hp'[rd]? = some (.dict D)
  hj : hp'[rj]? = some (.set (eight.filter fun x => decide (x ∈ keysL B B.length) && jf x))
  hp : hp'[rp]? = some (.set (eight.filter fun x => decide (x ∈ (keysL B B.length).filter fun x => !jf x) && pf x))
  mem : ∀ kv ∈ D, ∃ p, kv.2 = .ref p ∧ hp'[p]? = some (.list (intsL (posl B B.length kv.1)))
  keys : D.map (·.1) = ((keysL B B.length).filter fun x => !jf x).filter fun x => !pf x
theorem map_filter_keys {D : List (Int × AV)} {f : Int → Bool} : (D.filter fun kv => f kv.1).map (·.1) = (D.map (·.1)).filter f := by
  rw [List.filter_map]; rfl
theorem Up.wide {a b : List AO} {ex ex' : List Nat} (x : Up a b ex) (h : ∀ n ∈ ex, n ∈ ex') : Up a b ex' := ⟨x.1, fun n hn hx => x.2 n hn fun h' => hx (h n h')⟩
section
variable {C : Cx} {B : List Int} {H : List AO} {me ra rb : Nat} {o3 o4 o5 o6 o7 o8 o9 o10 o11 : Option AV} {jv : AV} {jf : Int → Bool} {aj : Bool}
theorem wp_chain {σ : St} {l : List (Option AV)} (hme : σ.hp[me]? = some (.inst l)) (hl10 : l.length = 10) (hl0 : l[0]? = some (some jv)) (hl2 : l[2]? = some (some (.ref rb))) (haj : l[3]? = some (some (.bool aj))) (hB : σ.hp[rb]? = some (.list (intsL B))) (lB : B.length ≤ 100000)
    (J : JunkIs C jv jf) (h8 : ∀ x ∈ keysL B B.length, jf x = true → x ∈ eight) (h8' : ∀ x ∈ keysL B B.length, popF aj B.length (posl B B.length) x = true → x ∈ eight) {P : AV → St → Prop}
    (hP : ∀ hp' rd rj rp D, Built σ.hp hp' me rd rj rp l B jf (popF aj B.length (posl B B.length)) D → P .none ⟨hp', σ.lc⟩) :
    Wp (g_chain_b C [.ref me]) P σ := by
  have hlim : lim = 1000000 := rfl
  obtain ⟨H, slc⟩ := σ
  dsimp only at hme hB hP
  have hmb : me ≠ rb := fun e => by rw [e, hB] at hme; cases hme
  have hme0 := get_lt hme
  have hrb0 := get_lt hB
  have hme1 : (H ++ [.dict []] : List AO)[me]? = some (.inst l) := get_app hme
  let H1 : List AO := (H ++ [AO.dict []]).set me (.inst (l.set 7 (some (.ref H.length))))
  have hH1 : (H ++ [.dict []] : List AO).set me (.inst (l.set 7 (some (.ref H.length)))) = H1 := rfl
  have hme2 : H1[me]? = some (.inst (l.set 7 (some (.ref H.length)))) := get_set_eq hme1
  have hB2 : H1[rb]? = some (.list (intsL B)) := get_set_ne (get_app hB) hmb
  have hd2 : H1[H.length]? = some (.dict []) := by
    show ((H ++ [AO.dict []]).set me _)[H.length]? = _
    rw [List.getElem?_set_ne (by omega)]; simp
  have up1 : Up H H1 [me] := ((Up.refl H _).app _).set (.inl (by simp)) _
  refine wp_fn (lc := [some (.ref me), none, none, none, none, none, none, none, none, none, none, none]) rfl ?_
  have fin : ∀ (hp1 : List AO) (D : List (Int × AV)) (o3 o4 o5 : Option AV), BI H1 H.length B B.length hp1 D → Wp (chT2 C) (fun f σ' => P (retOf f) ⟨σ'.hp, slc⟩) (cSt hp1 me rb H.length o3 o4 o5 none none none none none none) := by
    intro hp1 D o3 o4 o5 I
    have hle1 := I.up.1
    have hl1 : H1.length = H.length + 1 := by show ((H ++ [AO.dict []]).set me _).length = _; simp
    have hDl : D.length ≤ 100000 := by rw [← List.length_map (f := (·.1)), I.keys]; exact Nat.le_trans keysL_len lB
    have hme3 : hp1[me]? = some (.inst (l.set 7 (some (.ref H.length)))) := I.up.get hme2 (by simp; omega)
    have hB3 : hp1[rb]? = some (.list (intsL B)) := I.up.get hB2 (by simp; omega)
    have hme4 : (hp1 ++ [.set []] : List AO)[me]? = some (.inst (l.set 7 (some (.ref H.length)))) := get_app hme3
    let H3 : List AO := (hp1 ++ [AO.set []]).set me (.inst ((l.set 7 (some (.ref H.length))).set 8 (some (.ref hp1.length))))
    have hH3 : (hp1 ++ [.set []] : List AO).set me (.inst ((l.set 7 (some (.ref H.length))).set 8 (some (.ref hp1.length)))) = H3 := rfl
    have hme5 : H3[me]? = some (.inst ((l.set 7 (some (.ref H.length))).set 8 (some (.ref hp1.length)))) := get_set_eq hme4
    have hB5 : H3[rb]? = some (.list (intsL B)) := get_set_ne (get_app hB3) hmb
    have hd5 : H3[H.length]? = some (.dict D) := get_set_ne (get_app I.rdD) (by omega)
    have hj5 : H3[hp1.length]? = some (.set []) := by
      show ((hp1 ++ [AO.set []]).set me _)[hp1.length]? = _
      rw [List.getElem?_set_ne (by omega)]; simp
    have up3 : Up hp1 H3 [me] := ((Up.refl hp1 _).app _).set (.inl (by simp)) _
    have hl0' : ((l.set 7 (some (.ref H.length))).set 8 (some (.ref hp1.length)))[0]? = some (some jv) := by rw [List.getElem?_set_ne (by decide), List.getElem?_set_ne (by decide)]; exact hl0
    have hl3' : ((l.set 7 (some (.ref H.length))).set 8 (some (.ref hp1.length)))[3]? = some (some (.bool aj)) := by rw [List.getElem?_set_ne (by decide), List.getElem?_set_ne (by decide)]; exact haj
    have mem3 : ∀ kv ∈ D, ∃ p, kv.2 = .ref p ∧ H1.length ≤ p ∧ p < hp1.length ∧ H3[p]? = some (.list (intsL (posl B B.length kv.1))) := fun kv hkv => by
      obtain ⟨p, e, h1, h2⟩ := I.mem kv hkv
      exact ⟨p, e, h1, get_lt h2, up3.get h2 (by simp; omega)⟩
    have tail : ∀ (hp2 : List AO) (D2 : List (Int × AV)) (o4 o7 : Option AV), Up H3 hp2 [H.length, hp1.length] → hp2[H.length]? = some (.dict D2) → D2 = (D.filter fun kv => !jf kv.1) → hp2[hp1.length]? = some (.set (eight.filter fun x => decide (x ∈ D.map (·.1)) && jf x)) →
        Wp (chT3 C) (fun f σ' => P (retOf f) ⟨σ'.hp, slc⟩) (cSt hp2 me rb H.length o3 o4 o5 (some (.ref hp1.length)) o7 none none none none) := by
      intro hp2 D2 o4 o7 up4 h1 hD2 h2
      have hme6 : hp2[me]? = some (.inst ((l.set 7 (some (.ref H.length))).set 8 (some (.ref hp1.length)))) := up4.get hme5 (by simp; omega)
      have hB6 : hp2[rb]? = some (.list (intsL B)) := up4.get hB5 (by simp; omega)
      have sub : ∀ kv ∈ D2, kv ∈ D := fun kv h => by rw [hD2] at h; exact (List.mem_filter.mp h).1
      have hD2l : D2.length ≤ 100000 := by rw [hD2]; exact Nat.le_trans (List.length_filter_le _ _) hDl
      have mem4 : ∀ kv ∈ D2, ∃ p, kv.2 = .ref p ∧ H1.length ≤ p ∧ p < hp1.length ∧ hp2[p]? = some (.list (intsL (posl B B.length kv.1))) := fun kv hkv => by
        obtain ⟨p, e, h1, h2, h3⟩ := mem3 kv (sub kv hkv)
        exact ⟨p, e, h1, h2, up4.get h3 (by simp; omega)⟩
      have keys2 : D2.map (·.1) = (keysL B B.length).filter fun x => !jf x := by rw [hD2, map_filter_keys (f := fun x => !jf x), I.keys]
      refine wp_chT3 (l := (l.set 7 (some (.ref H.length))).set 8 (some (.ref hp1.length))) (aj := aj) (ql := posl B B.length) hme6 (by simp [hl10]) hl3' hB6 lB h1 hD2l (fun kv hkv => let ⟨p, e, _, _, h⟩ := mem4 kv hkv; ⟨p, e, h⟩) (fun x => Nat.le_trans posl_len (by omega))
        (fun x hx h => h8' x (by rw [keys2] at hx; exact (List.mem_filter.mp hx).1) h) fun hp3 rp σ' up5 g1 g2 g3 hσ => ?_
      have hrp : hp2.length ≤ rp ∨ rp < hp2.length := by omega
      have hle4 := up4.1
      have hle3 := up3.1
      show P .none ⟨σ'.hp, slc⟩
      rw [hσ]
      refine hP hp3 H.length hp1.length rp _ ⟨?_, g1, g2, ?_, ?_, fun kv hkv => ?_, ?_⟩
      · refine ((up1.trans I.up fun n hn hx => ?_).trans up3 fun n hn hx => hx).trans ((up4.wide (ex' := [H.length, hp1.length, me]) fun n h => by simp at h ⊢; omega).trans up5 fun n hn hx => by simp at hx ⊢; omega) fun n hn hx => ?_
        · simp at hx ⊢; omega
        · simp at hx ⊢; omega
      · rw [← I.keys]; exact up5.get h2 (by simp; omega)
      · rw [← keys2]; exact g3
      · obtain ⟨p, e, h1, h2, h3⟩ := mem4 kv (List.mem_filter.mp hkv).1
        exact ⟨p, e, up5.get h3 (by simp; omega)⟩
      · rw [map_filter_keys (f := fun x => !popF aj B.length (posl B B.length) x), keys2]
    unfold chT2 cSt
    rcases J with ⟨rfl, hj⟩ | ⟨⟨hok, tr⟩, app⟩
    · have e1 : ∀ (hp : List AO) (lc : List (Option AV)) (P : Bool → St → Prop), Wp (truthM C .none) P ⟨hp, lc⟩ = P false ⟨hp, lc⟩ := fun hp lc P => wp_of rfl
      simp only [wp_bind, wp_pure, wp_ld, wp_st, wp_add, wp_iadd, wp_sub, wp_lt, wp_gt, wp_le, wp_ge, wp_eqI, wp_neI, wp_tup, wp_asCons, wp_asNil, wp_then, wp_thenR, wp_thenC, wp_thenB, List.getElem?_cons_zero, List.getElem?_cons_succ, List.set_cons_zero, List.set_cons_succ, wp_setM, wp_setAttr hme4 (show 8 < (l.set 7 (some (AV.ref H.length))).length by simp [hl10]) (show (l.set 7 (some (AV.ref H.length))).length ≤ 100 by simp [hl10]), hH3, wp_attr hme5 hl0' rfl, e1, wp_ite, Bool.false_eq_true, if_false]
      refine tail H3 D _ _ (Up.refl _ _) hd5 (List.filter_eq_self.mpr fun kv _ => by simp [hj]).symm ?_
      rw [filter_false (fun x _ => by simp [hj])]; exact hj5
    · simp only [wp_bind, wp_pure, wp_ld, wp_st, wp_add, wp_iadd, wp_sub, wp_lt, wp_gt, wp_le, wp_ge, wp_eqI, wp_neI, wp_tup, wp_asCons, wp_asNil, wp_then, wp_thenR, wp_thenC, wp_thenB, List.getElem?_cons_zero, List.getElem?_cons_succ, List.set_cons_zero, List.set_cons_succ, wp_setM, wp_setAttr hme4 (show 8 < (l.set 7 (some (AV.ref H.length))).length by simp [hl10]) (show (l.set 7 (some (AV.ref H.length))).length ≤ 100 by simp [hl10]), hH3, wp_attr hme5 hl0' hok, tr, wp_ite, if_true]
      refine wp_chJ (me := me) (rb := rb) (o3 := o3) (o4 := o4) (o5 := o5) (o8 := none) (o9 := none) (o10 := none) (o11 := none) hd5 hj5 (by omega) hDl app (fun x hx h => h8 x (by rw [I.keys] at hx; exact hx) h) fun hp' o4' up' g1 g2 => ?_
      rw [wp_then]
      exact tail hp' _ _ _ up' g1 rfl g2
  unfold m_chain_b
  unfold chT2 chT3 chJ chP at fin
  have hl2' : (l.set 7 (some (.ref H.length)))[2]? = some (some (.ref rb)) := by rw [List.getElem?_set_ne (by decide)]; exact hl2
  rw [wp_bind]
  simp only [wp_bind, wp_pure, wp_ld, wp_st, wp_then, List.getElem?_cons_zero, List.getElem?_cons_succ, List.set_cons_zero, List.set_cons_succ, wp_attr hme hl2 rfl, wp_alloc, wp_setAttr hme1 (show 7 < l.length by omega) (show l.length ≤ 100 by omega), hH1, wp_enum hB2]
  refine chain_p1 (me := me) (rb := rb) (rd := H.length) (o3 := none) (o4 := none) (o5 := none) (o6 := none) (o7 := none) (o8 := none) (o9 := none) (o10 := none) (o11 := none) hB2 hd2 lB (by omega) fun hp1 D o3 o4 o5 I => ?_
  have f1 := fin hp1 D o3 o4 o5 I
  rw [wp_then]
  simp only [wp_bind, wp_pure, wp_ld, wp_st, wp_then, List.getElem?_cons_zero, List.getElem?_cons_succ, List.set_cons_zero, List.set_cons_succ] at f1 ⊢
  exact f1
end
end Mine

open PySem PySem.W PyProof.Rows
set_option Elab.async false
set_option maxRecDepth 100000
set_option maxHeartbeats 1000000
set_option linter.unusedVariables false
set_option linter.unusedSimpArgs false
namespace Mine
structure Matcher (hp : List AO) (me ra rb rd rj rp : Nat) (A B : List Int) (jf pf : Int → Bool) (D : List (Int × AV)) : Prop where
  hS : ∃ l, hp[me]? = some (.inst l) ∧ l[1]? = some (some (.ref ra)) ∧ l[2]? = some (some (.ref rb)) ∧ l[7]? = some (some (.ref rd)) ∧ l[8]? = some (some (.ref rj)) ∧ l[9]? = some (some (.ref rp))
  hA : hp[ra]? = some (.list (intsL A))
  hB : hp[rb]? = some (.list (intsL B))
  hd : hp[rd]? = some (.dict D)
  hj : hp[rj]? = some (.set (eight.filter fun x => decide (x ∈ keysL B B.length) && jf x))
  hpop : hp[rp]? = some (.set (eight.filter fun x => decide (x ∈ (keysL B B.length).filter fun x => !jf x) && pf x))
  mem : ∀ kv ∈ D, ∃ p, kv.2 = .ref p ∧ hp[p]? = some (.list (intsL (posl B B.length kv.1)))
  keys : D.map (·.1) = ((keysL B B.length).filter fun x => !jf x).filter fun x => !pf x
theorem Matcher.pre {hp hp' : List AO} {me ra rb rd rj rp : Nat} {A B : List Int} {jf pf : Int → Bool} {D : List (Int × AV)} (M : Matcher hp me ra rb rd rj rp A B jf pf D) (p : Pre hp hp') : Matcher hp' me ra rb rd rj rp A B jf pf D where
  hS := let ⟨l, h, x⟩ := M.hS; ⟨l, p.get h, x⟩
  hA := p.get M.hA
  hB := p.get M.hB
  hd := p.get M.hd
  hj := p.get M.hj
  hpop := p.get M.hpop
  mem := fun kv h => let ⟨a, e, h⟩ := M.mem kv h; ⟨a, e, p.get h⟩
  keys := M.keys
theorem it_key {B : List Int} {j : Int} (h0 : 0 ≤ j) (h1 : j < B.length) : it B j ∈ keysL B B.length := keysL_mem.mpr ⟨j.toNat, by omega, by rw [show ((j.toNat : Nat) : Int) = j by omega]⟩
theorem Matcher.FH {hp : List AO} {me ra rb rd rj rp : Nat} {A B : List Int} {jf pf q : Int → Bool} {D : List (Int × AV)} (M : Matcher hp me ra rb rd rj rp A B jf pf D) (lA : A.length ≤ 100000) (lB : B.length ≤ 100000) (hq : ∀ x ∈ keysL B B.length, q x = (!jf x && !pf x)) :
    FH hp me ra rb rd rj A B q (eight.filter fun x => decide (x ∈ keysL B B.length) && jf x) D where
  hS := let ⟨l, h, h1, h2, h7, h8, _⟩ := M.hS; ⟨l, h, h1, h2, h7, h8⟩
  hA := M.hA
  hB := M.hB
  hD := M.hd
  hJ := M.hj
  lA := lA
  lB := lB
  at_ := fun x => by
    by_cases hx : x ∈ D.map (·.1)
    · obtain ⟨v, hv⟩ := getD_some hx
      obtain ⟨p, e, hp⟩ := M.mem _ (getD_mem hv)
      dsimp only at e hp
      subst e
      have hx' := hx
      rw [M.keys, List.mem_filter, List.mem_filter] at hx'
      refine .inl ⟨p, posl B B.length x, hv, hp, Nat.le_trans posl_len lB, posl_sorted, fun j => posl_mem.trans ?_⟩
      have e : q x = true := by rw [hq x hx'.1.1]; simp only [hx'.1.2, hx'.2, Bool.and_self]
      constructor
      · rintro ⟨a, b, c⟩; exact ⟨a, b, c, e⟩
      · rintro ⟨a, b, c, _⟩; exact ⟨a, b, c⟩
    · refine .inr ⟨getD_none hx, fun j h0 h1 h2 => ?_⟩
      have hk : x ∈ keysL B B.length := h2 ▸ it_key h0 h1
      rw [M.keys, List.mem_filter, List.mem_filter] at hx
      cases e : q x with
      | false => rfl
      | true =>
        rw [hq x hk] at e
        simp only [Bool.and_eq_true] at e
        exact absurd ⟨⟨hk, e.1⟩, e.2⟩ hx
section
variable {C : Cx} {A B : List Int} {me ra rb : Nat} {jv : AV} {jf : Int → Bool} {aj : Bool}
theorem wp_new {g : List AV → M AV} {l : List AV} {P : AV → St → Prop} {hp : List AO} {lc : List (Option AV)} (h : Wp (g (.ref hp.length :: l)) (fun r σ' => r = .none ∧ P (.ref hp.length) σ') ⟨hp ++ [.inst (List.replicate 10 none)], lc⟩) : Wp (newM g l) P ⟨hp, lc⟩ := by
  obtain ⟨r, σ', e, rfl, hP⟩ := h
  exact ⟨_, _, by unfold newM; dsimp only; rw [e], hP⟩
theorem wp_isRN {n : Nat} {P : Bool → St → Prop} {σ : St} : Wp (isM (.ref n) .none) P σ = P false σ := wp_of rfl
theorem wp_instM' {n : Nat} {l : List (Option AV)} {P : Unit → St → Prop} {hp : List AO} {lc : List (Option AV)} (h : hp[n]? = some (.inst l)) : Wp (instM (.ref n)) P ⟨hp, lc⟩ = P () ⟨hp, lc⟩ := wp_instM h
theorem wp_set1 {σ : St} {v0 v3 v4 v5 v6 v7 v8 v9 v2 : Option AV} (hme : σ.hp[me]? = some (.inst [v0, some .none, v2, v3, v4, v5, v6, v7, v8, v9])) {P : AV → St → Prop}
    (hP : P .none ⟨((σ.hp.set me (.inst [v0, some (.ref ra), v2, v3, v4, v5, v6, v7, v8, v9])).set me (.inst [v0, some (.ref ra), v2, v3, some .none, v5, v6, v7, v8, v9])).set me (.inst [v0, some (.ref ra), v2, v3, some .none, some .none, v6, v7, v8, v9]), σ.lc⟩) :
    Wp (g_set_seq1 C [.ref me, .ref ra]) P σ := by
  obtain ⟨hp, slc⟩ := σ
  dsimp only at hme hP
  refine wp_fn (lc := [some (.ref me), some (.ref ra)]) rfl ?_
  have h1 : (hp.set me (.inst [v0, some (.ref ra), v2, v3, v4, v5, v6, v7, v8, v9]))[me]? = some (.inst [v0, some (.ref ra), v2, v3, v4, v5, v6, v7, v8, v9]) := get_set_eq hme
  have h2 : ((hp.set me (.inst [v0, some (.ref ra), v2, v3, v4, v5, v6, v7, v8, v9])).set me (.inst [v0, some (.ref ra), v2, v3, some .none, v5, v6, v7, v8, v9]))[me]? = some (.inst [v0, some (.ref ra), v2, v3, some .none, v5, v6, v7, v8, v9]) := get_set_eq h1
  unfold m_set_seq1
  simp only [wp_bind, wp_pure, wp_ld, wp_st, wp_add, wp_iadd, wp_sub, wp_lt, wp_gt, wp_le, wp_ge, wp_eqI, wp_neI, wp_tup, wp_asCons, wp_asNil, wp_then, wp_thenR, wp_thenC, wp_thenB, List.getElem?_cons_zero, List.getElem?_cons_succ, List.set_cons_zero, List.set_cons_succ, wp_attr hme (i := 1) rfl rfl, wp_isRN, wp_ite, Bool.false_eq_true, if_false, wp_setAttr hme (i := 1) (by simp) (by simp), wp_setAttr h1 (i := 4) (by simp) (by simp), wp_setAttr h2 (i := 5) (by simp) (by simp), retOf]
  exact hP
theorem set3 {hp : List AO} {n : Nat} {a b c : AO} : ((hp.set n a).set n b).set n c = hp.set n c := by rw [List.set_set, List.set_set]
theorem wp_set2 {σ : St} {v1 v4 v5 v6 v7 v8 v9 : Option AV} (hme : σ.hp[me]? = some (.inst [some jv, v1, some .none, some (.bool aj), v4, v5, v6, v7, v8, v9])) (hB : σ.hp[rb]? = some (.list (intsL B))) (lB : B.length ≤ 100000)
    (J : JunkIs C jv jf) (h8 : ∀ x ∈ keysL B B.length, jf x = true → x ∈ eight) (h8' : ∀ x ∈ keysL B B.length, popF aj B.length (posl B B.length) x = true → x ∈ eight) {P : AV → St → Prop}
    (hP : ∀ hp' rd rj rp D, Built (σ.hp.set me (.inst [some jv, v1, some (.ref rb), some (.bool aj), some .none, some .none, some .none, v7, v8, v9])) hp' me rd rj rp [some jv, v1, some (.ref rb), some (.bool aj), some .none, some .none, some .none, v7, v8, v9] B jf (popF aj B.length (posl B B.length)) D → P .none ⟨hp', σ.lc⟩) :
    Wp (g_set_seq2 C [.ref me, .ref rb]) P σ := by
  obtain ⟨hp, slc⟩ := σ
  dsimp only at hme hP hB
  have hne : me ≠ rb := fun e => by rw [e, hB] at hme; cases hme
  refine wp_fn (lc := [some (.ref me), some (.ref rb)]) rfl ?_
  have h1 : (hp.set me (.inst [some jv, v1, some (.ref rb), some (.bool aj), v4, v5, v6, v7, v8, v9]))[me]? = some (.inst [some jv, v1, some (.ref rb), some (.bool aj), v4, v5, v6, v7, v8, v9]) := get_set_eq hme
  have h2 : (hp.set me (.inst [some jv, v1, some (.ref rb), some (.bool aj), some .none, v5, v6, v7, v8, v9]))[me]? = some (.inst [some jv, v1, some (.ref rb), some (.bool aj), some .none, v5, v6, v7, v8, v9]) := get_set_eq hme
  have h3 : (hp.set me (.inst [some jv, v1, some (.ref rb), some (.bool aj), some .none, some .none, v6, v7, v8, v9]))[me]? = some (.inst [some jv, v1, some (.ref rb), some (.bool aj), some .none, some .none, v6, v7, v8, v9]) := get_set_eq hme
  have h4 : (hp.set me (.inst [some jv, v1, some (.ref rb), some (.bool aj), some .none, some .none, some .none, v7, v8, v9]))[me]? = some (.inst [some jv, v1, some (.ref rb), some (.bool aj), some .none, some .none, some .none, v7, v8, v9]) := get_set_eq hme
  unfold m_set_seq2
  simp only [wp_bind, wp_pure, wp_ld, wp_st, wp_add, wp_iadd, wp_sub, wp_lt, wp_gt, wp_le, wp_ge, wp_eqI, wp_neI, wp_tup, wp_asCons, wp_asNil, wp_then, wp_thenR, wp_thenC, wp_thenB, List.getElem?_cons_zero, List.getElem?_cons_succ, List.set_cons_zero, List.set_cons_succ, wp_attr hme (i := 2) rfl rfl, wp_isRN, wp_ite, Bool.false_eq_true, if_false, wp_setAttr hme (i := 2) (by simp) (by simp), wp_setAttr h1 (i := 4) (by simp) (by simp), wp_setAttr h2 (i := 5) (by simp) (by simp), wp_setAttr h3 (i := 6) (by simp) (by simp), List.set_set, wp_instM h4]
  refine wp_chain h4 rfl rfl rfl rfl (get_set_ne hB hne) lB J h8 h8' fun hp' rd rj rp D b => ?_
  simp only [retOf]
  exact hP hp' rd rj rp D b
theorem wp_init {hp : List AO} {slc : List (Option AV)} (hme : hp[me]? = some (.inst (List.replicate 10 none))) (hA : hp[ra]? = some (.list (intsL A))) (hB : hp[rb]? = some (.list (intsL B))) (lB : B.length ≤ 100000)
    (J : JunkIs C jv jf) (h8 : ∀ x ∈ keysL B B.length, jf x = true → x ∈ eight) (h8' : ∀ x ∈ keysL B B.length, popF aj B.length (posl B B.length) x = true → x ∈ eight) {P : AV → St → Prop} {l : List AV} (hl : bf_init l = some [some (.ref me), some jv, some (.ref ra), some (.ref rb), some (.bool aj)])
    (hP : ∀ hp' rd rj rp D, Up hp hp' [me] → Matcher hp' me ra rb rd rj rp A B jf (popF aj B.length (posl B B.length)) D → P .none ⟨hp', slc⟩) :
    Wp (g_init C l) P ⟨hp, slc⟩ := by
  have hne : me ≠ rb := fun e => by rw [e, hB] at hme; cases hme
  have hna : me ≠ ra := fun e => by rw [e, hA] at hme; cases hme
  refine wp_fn hl ?_
  have h0 : hp[me]? = some (.inst [none, none, none, none, none, none, none, none, none, none]) := hme
  have h1 : (hp.set me (.inst [some jv, none, none, none, none, none, none, none, none, none]))[me]? = some (.inst [some jv, none, none, none, none, none, none, none, none, none]) := get_set_eq hme
  have h2 : (hp.set me (.inst [some jv, some .none, none, none, none, none, none, none, none, none]))[me]? = some (.inst [some jv, some .none, none, none, none, none, none, none, none, none]) := get_set_eq hme
  have h3 : (hp.set me (.inst [some jv, some .none, some .none, none, none, none, none, none, none, none]))[me]? = some (.inst [some jv, some .none, some .none, none, none, none, none, none, none, none]) := get_set_eq hme
  have h4 : (hp.set me (.inst [some jv, some .none, some .none, some (.bool aj), none, none, none, none, none, none]))[me]? = some (.inst [some jv, some .none, some .none, some (.bool aj), none, none, none, none, none, none]) := get_set_eq hme
  have h5 : (hp.set me (.inst [some jv, some (.ref ra), some .none, some (.bool aj), some .none, some .none, none, none, none, none]))[me]? = some (.inst [some jv, some (.ref ra), some .none, some (.bool aj), some .none, some .none, none, none, none, none]) := get_set_eq hme
  unfold m_init
  simp only [wp_bind, wp_pure, wp_ld, wp_st, wp_add, wp_iadd, wp_sub, wp_lt, wp_gt, wp_le, wp_ge, wp_eqI, wp_neI, wp_tup, wp_asCons, wp_asNil, wp_then, wp_thenR, wp_thenC, wp_thenB, List.getElem?_cons_zero, List.getElem?_cons_succ, List.set_cons_zero, List.set_cons_succ, wp_setAttr h0 (i := 0) (by simp) (by simp), wp_setAttr h1 (i := 1) (by simp) (by simp), wp_setAttr h2 (i := 2) (by simp) (by simp), wp_setAttr h3 (i := 3) (by simp) (by simp), List.set_set, wp_instM h4]
  refine wp_fn (lc := [some (.ref me), some (.ref ra), some (.ref rb)]) rfl ?_
  unfold m_set_seqs
  simp only [wp_bind, wp_pure, wp_ld, wp_st, wp_add, wp_iadd, wp_sub, wp_lt, wp_gt, wp_le, wp_ge, wp_eqI, wp_neI, wp_tup, wp_asCons, wp_asNil, wp_then, wp_thenR, wp_thenC, wp_thenB, List.getElem?_cons_zero, List.getElem?_cons_succ, List.set_cons_zero, List.set_cons_succ, wp_instM h4]
  refine wp_set1 h4 ?_
  simp only [List.set_set, wp_instM h5, wp_bind, wp_pure, wp_ld, wp_st, wp_add, wp_iadd, wp_sub, wp_lt, wp_gt, wp_le, wp_ge, wp_eqI, wp_neI, wp_tup, wp_asCons, wp_asNil, wp_then, wp_thenR, wp_thenC, wp_thenB, List.getElem?_cons_zero, List.getElem?_cons_succ, List.set_cons_zero, List.set_cons_succ]
  refine wp_set2 (jv := jv) (aj := aj) (B := B) (jf := jf) h5 (get_set_ne hB hne) lB J h8 h8' fun hp' rd rj rp D b => ?_
  simp only [retOf]
  rw [List.set_set] at b
  have up : Up hp hp' [me] := ((Up.refl hp [me]).set (.inl (by simp)) _).trans b.up fun n _ h => h
  exact hP hp' rd rj rp D up ⟨⟨_, b.hme, rfl, rfl, rfl, rfl, rfl⟩, up.get hA (by simp; omega), up.get hB (by simp; omega), b.hd, b.hj, b.hp, b.mem, b.keys⟩
theorem wp_matcher {σ : St} (hA : σ.hp[ra]? = some (.list (intsL A))) (hB : σ.hp[rb]? = some (.list (intsL B))) (lB : B.length ≤ 100000)
    (J : JunkIs C jv jf) (h8 : ∀ x ∈ keysL B B.length, jf x = true → x ∈ eight) (h8' : ∀ x ∈ keysL B B.length, popF aj B.length (posl B B.length) x = true → x ∈ eight) {P : AV → St → Prop} {l : List AV} (hl : bf_init (.ref σ.hp.length :: l) = some [some (.ref σ.hp.length), some jv, some (.ref ra), some (.ref rb), some (.bool aj)])
    (hP : ∀ hp' rd rj rp D, Pre σ.hp hp' → Matcher hp' σ.hp.length ra rb rd rj rp A B jf (popF aj B.length (posl B B.length)) D → P (.ref σ.hp.length) ⟨hp', σ.lc⟩) :
    Wp (g_SequenceMatcher C l) P σ := by
  obtain ⟨hp, slc⟩ := σ
  dsimp only at hA hB hP hl
  refine wp_new (wp_init (by simp) (get_app hA) (get_app hB) lB J h8 h8' hl fun hp' rd rj rp D up M => ⟨rfl, hP hp' rd rj rp D ?_ M⟩)
  refine (((Up.refl hp []).app _).trans up fun n hn h => ?_).pre
  simp at h; omega
end
end Mine

open PySem PySem.W PyProof.Rows
set_option Elab.async false
set_option maxRecDepth 100000
set_option maxHeartbeats 1000000
set_option linter.unusedVariables false
set_option linter.unusedSimpArgs false
namespace Mine
theorem wp_mod {a b : Int} {P : AV → St → Prop} {σ : St} (h : 0 < b ∧ b ≤ 1000000) : Wp (modM (.int a) (.int b)) P σ = P (.int (a % b)) σ := wp_of (by unfold modM; simp only [h]; rfl)
theorem wp_range1 {a : Int} {P : AV → St → Prop} {σ : St} : Wp (rangeM [.int a]) P σ = P (.rng 0 a) σ := wp_of rfl
theorem wp_comp {caps : List (Option Nat)} {mi : M Src} {st : AV → M Unit} {mt : M Bool} {me : M AV} {P : AV → St → Prop} {σ : St}
    (h : Wp mi (fun g σ₁ => Wp (forM' fuel g st (compB σ₁.hp.length mt me)) (fun f σ' => f = .next ∧ P (.ref σ₁.hp.length) ⟨σ'.hp, σ₁.lc⟩) ⟨σ₁.hp ++ [.list []], caps.map fun o => (o.bind fun j => σ₁.lc[j]?).join⟩) σ) : Wp (compM caps mi st mt me) P σ := by
  obtain ⟨g, σ₁, e, f, σ', e', rfl, hP⟩ := h
  exact ⟨_, _, by unfold compM; rw [mb_eq e, e'], hP⟩
theorem wp_setL {n : Nat} {i : Int} {v : AV} {l : List AV} {P : Unit → St → Prop} {hp : List AO} {lc : List (Option AV)} (h : hp[n]? = some (.list l)) (hl : l.length ≤ lim) (h0 : 0 ≤ i) (h1 : i < l.length) : Wp (setItemM (.ref n) (.int i) v) P ⟨hp, lc⟩ = P () ⟨hp.set n (.list (l.set i.toNat v)), lc⟩ := by
  have e : idxOf i l.length = some i.toNat := by unfold idxOf; rw [if_pos h0, if_pos h1]
  exact wp_of (by unfold setItemM; simp only [h]; rw [if_pos hl, e]; dsimp only; rw [if_pos h0])
/-! the second list -/
def cellB (k : Nat) : Int := if (k : Int) % 5 = 4 then 1 + (k : Int) / 5 % 2 else 100 + k
def baseB (n : Nat) : List Int := (List.range n).map cellB
def setsB (l : List Int) (ks : List Nat) (v : Int) : List Int := ks.foldl (fun l k => l.set k v) l
def secB (n : Nat) : List Int := setsB (setsB (baseB n) [20, 70, 120, 170] 3) [31, 81, 131] 4
theorem setsB_length {v : Int} : ∀ {ks : List Nat} {l : List Int}, (setsB l ks v).length = l.length
  | [], _ => rfl
  | k :: ks, l => by show (setsB (l.set k v) ks v).length = _; rw [setsB_length, List.length_set]
theorem baseB_length {n : Nat} : (baseB n).length = n := by unfold baseB; simp
theorem secB_length {n : Nat} : (secB n).length = n := by unfold secB; rw [setsB_length, setsB_length, baseB_length]
theorem wp_sets {C : Cx} {v : Int} {hp : List AO} {o0 o1 : Option AV} {P : Fl → St → Prop} {b : M Fl} {n r : Nat} (hn : n ≤ 1000)
    (hb : ∀ (hp : List AO) (k : Nat) (o0 : Option AV) (l : List Int) (P : Fl → St → Prop), hp[r]? = some (.list (intsL l)) → k < l.length → l.length ≤ 1000 → P .next ⟨hp.set r (.list (intsL (l.set k v))), [o0, some (.int k), some (.ref r)]⟩ → Wp b P ⟨hp, [o0, some (.int k), some (.ref r)]⟩) :
    ∀ (ks : List Nat) (l : List Int) (hp : List AO) (fl : Nat), (∀ k ∈ ks, k < n) → hp[r]? = some (.list (intsL l)) → l.length = n → ks.length < fl → (∀ hp' o1, Up hp hp' [r] → hp'[r]? = some (.list (intsL (setsB l ks v))) → P .next ⟨hp', [o0, o1, some (.ref r)]⟩) → ∀ o1, Wp (forM' fl (.fixed (ks.map fun k : Nat => AV.int (k : Int))) (stM 1) b) P ⟨hp, [o0, o1, some (.ref r)]⟩
  | [], l, hp, fl + 1, hk, hr, hl, hf, hP, o1 => by
    refine wp_for_fixed (fun r' σ' => r' = [] ∧ σ' = ⟨hp, [o0, o1, some (.ref r)]⟩) (fun a r' σ' h => by cases h.1) (fun σ' h => by rw [h.2]; exact hP _ _ (Up.refl _ _) hr) [] (fl + 1) _ (by simp) ⟨rfl, rfl⟩
  | k :: ks, l, hp, fl + 1, hk, hr, hl, hf, hP, o1 => by
    rw [List.map_cons, forM', wp_bind]
    show Wp (pure (some (AV.int (k : Int), Src.fixed (ks.map fun k : Nat => AV.int (k : Int)))) : M (Option (AV × Src))) _ _
    rw [wp_pure]
    simp only [wp_bind, wp_st, List.set_cons_zero, List.set_cons_succ]
    refine hb hp k o0 l _ hr (by rw [hl]; exact hk k (by simp)) (by omega) ?_
    dsimp only
    refine wp_sets (C := C) (o1 := o1) (hp := hp) hn hb ks (l.set k v) _ fl (fun k hk' => hk k (by simp [hk'])) (get_set_eq hr) (by rw [List.length_set]; exact hl) (by simpa using hf) (fun hp' o1 up h' => ?_) _
    exact hP hp' o1 (((Up.refl hp [r]).set (.inl (by simp)) _).trans up fun n _ h => h) h'
theorem intsL_set {l : List Int} {k : Nat} {v : Int} : intsL (l.set k v) = (intsL l).set k (.int v) := by unfold intsL; rw [List.map_set]
theorem wp_second {C : Cx} {n : Nat} (h1 : 200 ≤ n) (h2 : n ≤ 204) {σ : St} {P : AV → St → Prop} (hP : ∀ hp' r, Pre σ.hp hp' → hp'[r]? = some (.list (intsL (secB n))) → P (.ref r) ⟨hp', σ.lc⟩) : Wp (g__law_second C [.int n]) P σ := by
  have hlim : lim = 1000000 := rfl
  have hfu : fuel = 2000000 := rfl
  obtain ⟨hp, slc⟩ := σ
  dsimp only at hP
  refine wp_fn (lc := [some (.int n), none, none]) rfl ?_
  unfold m__law_second
  rw [wp_bind, wp_bind]
  refine wp_comp ?_
  simp only [wp_bind, wp_pure, wp_ld, List.getElem?_cons_zero, wp_range1, wp_iterR (a := 0) (b := n) (by omega) (by omega) (by omega) (by omega)]
  have key : Wp (forM' fuel (.range (0 + (0 : Nat)) n) (stM 1) (compB hp.length (pure true) (do let b ← (do let a ← (do let a ← (ldM 1); let b ← (pure (.int 5)); modM a b); let b ← (pure (.int 4)); eqIM a b); if b then (do let a ← (pure (.int 1)); let b ← (do let a ← (do let a ← (ldM 1); let b ← (pure (.int 5)); divM a b); let b ← (pure (.int 2)); modM a b); addM a b) else (do let a ← (pure (.int 100)); let b ← (ldM 1); addM a b))))
      (fun f σ' => f = .next ∧ σ'.hp = hp ++ [.list (intsL (baseB n))]) ⟨hp ++ [.list []], [none, none]⟩ := by
    refine wp_for_range (fun i σ' => ∃ o1, σ' = ⟨hp ++ [.list (intsL (baseB i))], [none, o1]⟩) 0 n ?_ ?_ n 0 fuel _ (by omega) (by rw [hfu]; omega) ⟨none, rfl⟩
    · rintro i hi σ' ⟨o1, rfl⟩
      unfold compB
      have ea : ∀ v : Int, Wp (appendM [.ref hp.length, .int v]) (fun _ σ' => ∃ o1, σ' = ⟨hp ++ [.list (intsL (baseB i) ++ [.int v])], [none, o1]⟩) ⟨hp ++ [.list (intsL (baseB i))], [none, some (.int (0 + i))]⟩ := fun v => by
        rw [wp_append (get_last) (by rw [intsL_length, baseB_length]; omega)]
        exact ⟨_, by rw [set_last]⟩
      have eb : intsL (baseB (i + 1)) = intsL (baseB i) ++ [.int (cellB i)] := by unfold baseB intsL; rw [List.range_succ, List.map_append, List.map_append]; rfl
      have ec := ea (cellB i)
      rw [← eb] at ec
      have e0 : (0 : Int) + i = i := by omega
      simp only [wp_bind, wp_pure, wp_ld, wp_st, wp_add, wp_iadd, wp_sub, wp_lt, wp_gt, wp_le, wp_ge, wp_eqI, wp_neI, wp_tup, wp_asCons, wp_asNil, wp_then, wp_thenR, wp_thenC, wp_thenB, List.getElem?_cons_zero, List.getElem?_cons_succ, List.set_cons_zero, List.set_cons_succ, if_true, wp_ite, wp_mod (show (0 : Int) < 5 ∧ (5 : Int) ≤ 1000000 by decide), e0]
      unfold cellB at ec
      rw [e0] at ec
      by_cases c : (i : Int) % 5 = 4
      · simp only [c, beq_self_eq_true, if_true, wp_bind, wp_pure, wp_ld, wp_st, wp_add, wp_iadd, wp_sub, wp_lt, wp_gt, wp_le, wp_ge, wp_eqI, wp_neI, wp_tup, wp_asCons, wp_asNil, wp_then, wp_thenR, wp_thenC, wp_thenB, List.getElem?_cons_zero, List.getElem?_cons_succ, List.set_cons_zero, List.set_cons_succ, wp_div (show (0 : Int) < 5 ∧ (5 : Int) ≤ 1000000 by decide), wp_mod (show (0 : Int) < 2 ∧ (2 : Int) ≤ 1000000 by decide)]
        rw [if_pos c] at ec
        exact wp_mono ec fun _ σ' h => ⟨.inl trivial, h⟩
      · have cb : ((i : Int) % 5 == 4) = false := by simpa using c
        simp only [cb, Bool.false_eq_true, if_false, wp_bind, wp_pure, wp_ld, wp_st, wp_add, wp_iadd, wp_sub, wp_lt, wp_gt, wp_le, wp_ge, wp_eqI, wp_neI, wp_tup, wp_asCons, wp_asNil, wp_then, wp_thenR, wp_thenC, wp_thenB, List.getElem?_cons_zero, List.getElem?_cons_succ, List.set_cons_zero, List.set_cons_succ]
        rw [if_neg c] at ec
        exact wp_mono ec fun _ σ' h => ⟨.inl trivial, h⟩
    · rintro σ' ⟨o1, rfl⟩
      exact ⟨rfl, rfl⟩
  have key2 : Wp (forM' fuel (.range 0 ((n : Int) - 0).toNat) (stM 1) (compB hp.length (pure true) (do let b ← (do let a ← (do let a ← (ldM 1); let b ← (pure (.int 5)); modM a b); let b ← (pure (.int 4)); eqIM a b); if b then (do let a ← (pure (.int 1)); let b ← (do let a ← (do let a ← (ldM 1); let b ← (pure (.int 5)); divM a b); let b ← (pure (.int 2)); modM a b); addM a b) else (do let a ← (pure (.int 100)); let b ← (ldM 1); addM a b))))
      (fun f σ' => f = .next ∧ σ'.hp = hp ++ [.list (intsL (baseB n))]) ⟨hp ++ [.list []], [none, none]⟩ := by
    have e1 : ((n : Int) - 0).toNat = n := by omega
    have e2 : (0 : Int) + ((0 : Nat) : Int) = 0 := by omega
    rw [e1]; rw [e2] at key; exact key
  refine wp_mono key2 fun f σ' ⟨hf, hσ⟩ => ⟨hf, ?_⟩
  rw [hσ]
  simp only [wp_bind, wp_pure, wp_ld, wp_st, wp_add, wp_iadd, wp_sub, wp_lt, wp_gt, wp_le, wp_ge, wp_eqI, wp_neI, wp_tup, wp_asCons, wp_asNil, wp_then, wp_thenR, wp_thenC, wp_thenB, List.getElem?_cons_zero, List.getElem?_cons_succ, List.set_cons_zero, List.set_cons_succ, List.length_cons, List.length_nil, wp_iterT]
  refine ⟨by omega, ?_⟩
  have step : ∀ (v : Int) (b : M Fl), (b = do let f ← (do let a ← (pure (.int v)); (fun v => do let a ← (ldM 2); let b ← (ldM 1); setItemM a b v) a; pure .next); thenM f (pure .next)) → ∀ (hp' : List AO) (k : Nat) (o0 : Option AV) (l : List Int) (P : Fl → St → Prop), hp'[hp.length]? = some (.list (intsL l)) → k < l.length → l.length ≤ 1000 → P .next ⟨hp'.set hp.length (.list (intsL (l.set k v))), [o0, some (.int k), some (.ref hp.length)]⟩ → Wp b P ⟨hp', [o0, some (.int k), some (.ref hp.length)]⟩ := by
    intro v b hb hp' k o0 l P hr hk hl hP
    rw [hb]
    simp only [wp_bind, wp_pure, wp_ld, wp_st, wp_add, wp_iadd, wp_sub, wp_lt, wp_gt, wp_le, wp_ge, wp_eqI, wp_neI, wp_tup, wp_asCons, wp_asNil, wp_then, wp_thenR, wp_thenC, wp_thenB, List.getElem?_cons_zero, List.getElem?_cons_succ, List.set_cons_zero, List.set_cons_succ, wp_setL hr (show (intsL l).length ≤ lim by rw [intsL_length]; omega) (show (0 : Int) ≤ k by omega) (show (k : Int) < (intsL l).length by rw [intsL_length]; omega), Int.toNat_natCast]
    rw [← intsL_set]
    exact hP
  refine wp_sets (C := C) (o0 := some (.int n)) (o1 := none) (hp := hp) (v := 3) (n := n) (r := hp.length) (by omega) (step 3 _ rfl) [20, 70, 120, 170] (baseB n) _ fuel (fun k hk => by simp at hk; omega) get_last baseB_length (by rw [hfu]; decide) (fun hp1 o1 up1 hr1 => ?_) none
  simp only [wp_bind, wp_pure, wp_ld, wp_st, wp_add, wp_iadd, wp_sub, wp_lt, wp_gt, wp_le, wp_ge, wp_eqI, wp_neI, wp_tup, wp_asCons, wp_asNil, wp_then, wp_thenR, wp_thenC, wp_thenB, List.getElem?_cons_zero, List.getElem?_cons_succ, List.set_cons_zero, List.set_cons_succ, List.length_cons, List.length_nil, wp_iterT]
  refine ⟨by omega, ?_⟩
  refine wp_sets (C := C) (o0 := some (.int n)) (o1 := none) (hp := hp) (v := 4) (n := n) (r := hp.length) (by omega) (step 4 _ rfl) [31, 81, 131] _ _ fuel (fun k hk => by simp at hk; omega) hr1 (by rw [setsB_length, baseB_length]) (by rw [hfu]; decide) (fun hp2 o1 up2 hr2 => ?_) _
  simp only [wp_bind, wp_pure, wp_ld, wp_st, wp_add, wp_iadd, wp_sub, wp_lt, wp_gt, wp_le, wp_ge, wp_eqI, wp_neI, wp_tup, wp_asCons, wp_asNil, wp_then, wp_thenR, wp_thenC, wp_thenB, List.getElem?_cons_zero, List.getElem?_cons_succ, List.set_cons_zero, List.set_cons_succ, retOf]
  refine hP hp2 _ ?_ hr2
  refine ((((Up.refl hp []).app _).trans up1 fun m hm h => ?_).trans up2 fun m hm h => ?_).pre
  · simp at h; omega
  · simp at h; omega
end Mine

open PySem PySem.W PyProof.Rows
set_option Elab.async false
set_option maxRecDepth 100000
set_option maxHeartbeats 1000000
set_option linter.unusedVariables false
set_option linter.unusedSimpArgs false
namespace Mine
theorem wp_addT {a b : List AV} {P : AV → St → Prop} {σ : St} (h : a.length + b.length ≤ 1000000) : Wp (addM (.tup a) (.tup b)) P σ = P (.tup (a ++ b)) σ := wp_of (by unfold addM addM.tupM'; dsimp only; rw [if_pos (by rw [List.length_append]; exact h)])
theorem wp_addL {n m : Nat} {a b : List AV} {P : AV → St → Prop} {hp : List AO} {lc : List (Option AV)} (h : hp[n]? = some (.list a)) (h' : hp[m]? = some (.list b)) (hl : a.length + b.length ≤ 1000000) : Wp (addM (.ref n) (.ref m)) P ⟨hp, lc⟩ = P (.ref hp.length) ⟨hp ++ [.list (a ++ b)], lc⟩ := wp_of (by unfold addM; simp only [h, h']; rw [if_pos hl]; rfl)
theorem wp_slice {n : Nat} {a b : Int} {l : List AV} {P : AV → St → Prop} {hp : List AO} {lc : List (Option AV)} (h : hp[n]? = some (.list l)) (hl : l.length ≤ lim) (ha : 0 ≤ a) (hb : 0 ≤ b) : Wp (sliceM (.ref n) (.int a) (.int b)) P ⟨hp, lc⟩ = P (.ref hp.length) ⟨hp ++ [.list ((l.drop a.toNat).take (b.toNat - a.toNat))], lc⟩ := by
  refine wp_of ?_
  unfold sliceM
  dsimp only
  rw [mb_eq (a := l) (σ₁ := ⟨hp, lc⟩) (by simp only [h]; rw [if_pos hl])]
  unfold boundM
  dsimp only
  rw [if_pos ha, if_pos hb]
  rfl
theorem wp_sliceN {n : Nat} {a : Int} {l : List AV} {P : AV → St → Prop} {hp : List AO} {lc : List (Option AV)} (h : hp[n]? = some (.list l)) (hl : l.length ≤ lim) (ha : 0 ≤ a) : Wp (sliceM (.ref n) (.int a) .none) P ⟨hp, lc⟩ = P (.ref hp.length) ⟨hp ++ [.list ((l.drop a.toNat).take (l.length - a.toNat))], lc⟩ := by
  refine wp_of ?_
  unfold sliceM
  dsimp only
  rw [mb_eq (a := l) (σ₁ := ⟨hp, lc⟩) (by simp only [h]; rw [if_pos hl])]
  unfold boundM
  dsimp only
  rw [if_pos ha]
  rfl
theorem wp_listM {n : Nat} {l : List AV} {P : AV → St → Prop} {hp : List AO} {lc : List (Option AV)} (h : hp[n]? = some (.list l)) (hl : l.length ≤ lim) : Wp (listM [.ref n]) P ⟨hp, lc⟩ = P (.ref hp.length) ⟨hp ++ [.list l], lc⟩ := by
  refine wp_of ?_
  unfold listM
  dsimp only
  rw [mb_eq (a := l) (σ₁ := ⟨hp, lc⟩) (by unfold seqM; simp only [h]; rw [if_pos hl])]
  rfl
theorem scrL_run {sa : Nat} {ns : List Int} {σ : St} : scrL sa ns (.st (.ref sa)) σ = some (ns.map .int, σ) := by unfold scrL; dsimp only; rw [if_pos rfl]
theorem wp_sumS {sa : Nat} {ns : List Int} {P : AV → St → Prop} {σ : St} : Wp (sumS sa ns [.st (.ref sa)]) P σ = P (.int ns.sum) σ := wp_of (by unfold sumS; dsimp only; rw [mb_eq scrL_run]; rfl)
theorem wp_lenS {sa : Nat} {ns : List Int} {P : AV → St → Prop} {σ : St} : Wp (lenS sa ns [.st (.ref sa)]) P σ = P (.int ns.length) σ := wp_of (by unfold lenS; dsimp only; rw [mb_eq scrL_run]; rfl)
theorem wp_sliceS0 {sa : Nat} {ns : List Int} {b : Int} {P : AV → St → Prop} {hp : List AO} {lc : List (Option AV)} (hb : 0 ≤ b) : Wp (sliceS sa ns (.st (.ref sa)) .none (.int b)) P ⟨hp, lc⟩ = P (.ref hp.length) ⟨hp ++ [.list (intsL ((ns.drop 0).take (b.toNat - 0)))], lc⟩ := wp_of (by
  unfold sliceS; rw [mb_eq scrL_run]; unfold boundM; dsimp only; rw [if_pos hb]
  unfold intsL; rw [List.map_take, List.map_drop]; rfl)
theorem wp_sliceS {sa : Nat} {ns : List Int} {a b : Int} {P : AV → St → Prop} {hp : List AO} {lc : List (Option AV)} (ha : 0 ≤ a) (hb : 0 ≤ b) : Wp (sliceS sa ns (.st (.ref sa)) (.int a) (.int b)) P ⟨hp, lc⟩ = P (.ref hp.length) ⟨hp ++ [.list (intsL ((ns.drop a.toNat).take (b.toNat - a.toNat)))], lc⟩ := wp_of (by
  unfold sliceS; rw [mb_eq scrL_run]; unfold boundM; dsimp only; rw [if_pos ha, if_pos hb]
  unfold intsL; rw [List.map_take, List.map_drop]; rfl)
section
variable {C : Cx} {sa : Nat} {ns : List Int} {B : List Int} {hp : List AO} {r2 rp : Nat} {o0 o1 o2 o3 o4 o5 o6 o7 o8 o9 o10 o11 o12 o13 o14 o15 o16 o17 o18 o19 o20 : Option AV}
/-- the law's table of places, as far as it is made -/
structure PI (B : List Int) (i : Nat) (D : List (Int × AV)) : Prop where
  len : D.length ≤ i
  val : ∀ x, getD D x = if decide (x ∉ noise) = true ∧ posl B i x ≠ [] then some (.tup ((posl B i x).map .int)) else none
theorem PI.get {i : Nat} {D : List (Int × AV)} (I : PI B i D) {x : Int} (hx : x ∉ noise) : (getD D x).getD (.tup []) = .tup ((posl B i x).map .int) := by
  rw [I.val]
  by_cases h : posl B i x = []
  · rw [if_neg (fun hh => hh.2 h), h]; rfl
  · rw [if_pos ⟨by simpa using hx, h⟩]; rfl
theorem PI.step {i : Nat} {D : List (Int × AV)} (I : PI B i D) : (it B i ∉ noise → PI B (i + 1) (putD D (it B i) (.tup ((posl B i (it B i)).map .int ++ [.int i])))) ∧ (it B i ∈ noise → PI B (i + 1) D) := by
  refine ⟨fun h => ⟨Nat.le_trans putD_length (by have := I.len; omega), fun x => ?_⟩, fun h => ⟨by have := I.len; omega, fun x => ?_⟩⟩
  · rw [getD_putD, posl_succ]
    by_cases e : x = it B i
    · rw [if_pos e, e, if_pos rfl, if_pos ⟨by simpa using h, by simp⟩, List.map_append]; rfl
    · rw [if_neg e, if_neg (show ¬ it B i = x from fun h => e h.symm), I.val]
  · rw [I.val, posl_succ]
    by_cases e : it B i = x
    · rw [if_pos e, if_neg (fun hh => by rw [← e] at hh; simp [h] at hh), if_neg (fun hh => by rw [← e] at hh; simp [h] at hh)]
    · rw [if_neg e]
theorem PI.places {D : List (Int × AV)} (I : PI B B.length D) (lB : B.length ≤ 100000) : PlacesR D B (fun x => decide (x ∉ noise)) where
  pl := fun x => by
    have hlim : lim = 1000000 := rfl
    by_cases hx : x ∈ noise
    · refine ⟨[], by rw [I.val, if_neg (fun hh => by simp [hx] at hh)]; rfl, by simp, .nil, fun j => ?_⟩
      simp [hx]
    · refine ⟨posl B B.length x, I.get hx, Nat.le_trans posl_len (by omega), posl_sorted, fun j => posl_mem.trans ?_⟩
      simp [hx]
  isIn := fun j h0 h1 => by
    rw [I.val]
    have hne : posl B B.length (it B j) ≠ [] := fun e => by
      have : j ∈ posl B B.length (it B j) := posl_mem.mpr ⟨h0, h1, rfl⟩
      rw [e] at this; simp at this
    by_cases hx : it B j ∈ noise
    · rw [if_neg (fun hh => by simp [hx] at hh)]; simp [hx]
    · rw [if_pos ⟨by simpa using hx, hne⟩]; simp [hx]
theorem wp_places (hB : hp[r2]? = some (.list (intsL B))) (hD : hp[rp]? = some (.dict [])) (lB : B.length ≤ 100000) {P : Fl → St → Prop}
    (hP : ∀ hp' D o4, Up hp hp' [rp] → hp'[rp]? = some (.dict D) → PlacesR D B (fun x => decide (x ∉ noise)) → P .next ⟨hp', [o0, o1, some (.ref r2), some (.ref rp), o4, o5, o6, o7, o8, o9, o10, o11, o12, o13, o14, o15, o16, o17, o18, o19, o20]⟩) :
    Wp (forM' fuel (.range 0 B.length) (stM 4) (m_law_b1 C sa ns)) P ⟨hp, [o0, o1, some (.ref r2), some (.ref rp), o4, o5, o6, o7, o8, o9, o10, o11, o12, o13, o14, o15, o16, o17, o18, o19, o20]⟩ := by
  have hlim : lim = 1000000 := rfl
  have hfu : fuel = 2000000 := rfl
  have hne : r2 ≠ rp := fun e => by rw [e, hD] at hB; cases hB
  have key := wp_for_range (st := stM 4) (b := m_law_b1 C sa ns) (P := P) (fun i σ' => ∃ hp' D o4, σ' = ⟨hp', [o0, o1, some (.ref r2), some (.ref rp), o4, o5, o6, o7, o8, o9, o10, o11, o12, o13, o14, o15, o16, o17, o18, o19, o20]⟩ ∧ Up hp hp' [rp] ∧ hp'[rp]? = some (.dict D) ∧ PI B i D) 0 B.length ?_ ?_ B.length 0 fuel
    (⟨hp, [o0, o1, some (.ref r2), some (.ref rp), o4, o5, o6, o7, o8, o9, o10, o11, o12, o13, o14, o15, o16, o17, o18, o19, o20]⟩ : St) (by omega) (by rw [hfu]; omega) ⟨hp, [], o4, rfl, Up.refl _ _, hD, ⟨by simp, fun x => by rw [if_neg (fun h => h.2 rfl)]; rfl⟩⟩
  · exact key
  · rintro i hi σ' ⟨hp', D, o4', rfl, up, hD', I⟩
    have hB' : hp'[r2]? = some (.list (intsL B)) := up.get hB (by simp; exact hne)
    have e0 : (0 : Int) + i = i := by omega
    have hDl := I.len
    rw [e0]
    unfold m_law_b1
    have hpl := posl_len (B := B) (i := i) (x := it B i)
    simp only [wp_bind, wp_pure, wp_ld, wp_st, wp_add, wp_iadd, wp_sub, wp_lt, wp_gt, wp_le, wp_ge, wp_eqI, wp_neI, wp_tup, wp_asCons, wp_asNil, wp_then, wp_thenR, wp_thenC, wp_thenB, List.getElem?_cons_zero, List.getElem?_cons_succ, List.set_cons_zero, List.set_cons_succ, wp_itemL hB' (show B.length ≤ lim by omega) (show (0 : Int) ≤ i by omega) (show (i : Int) < B.length by omega), wp_notInT, wp_ite]
    by_cases hx : it B i ∈ noise
    · simp only [hx, decide_true, Bool.not_true, Bool.false_eq_true, if_false, wp_bind, wp_pure, wp_ld, wp_st, wp_add, wp_iadd, wp_sub, wp_lt, wp_gt, wp_le, wp_ge, wp_eqI, wp_neI, wp_tup, wp_asCons, wp_asNil, wp_then, wp_thenR, wp_thenC, wp_thenB, List.getElem?_cons_zero, List.getElem?_cons_succ, List.set_cons_zero, List.set_cons_succ]
      exact ⟨.inl trivial, hp', D, _, rfl, up, hD', (I.step).2 hx⟩
    · simp only [hx, decide_false, Bool.not_false, if_true, wp_bind, wp_pure, wp_ld, wp_st, wp_add, wp_iadd, wp_sub, wp_lt, wp_gt, wp_le, wp_ge, wp_eqI, wp_neI, wp_tup, wp_asCons, wp_asNil, wp_then, wp_thenR, wp_thenC, wp_thenB, List.getElem?_cons_zero, List.getElem?_cons_succ, List.set_cons_zero, List.set_cons_succ, wp_chk (T := "dict") hD' rfl, wp_itemL hB' (show B.length ≤ lim by omega) (show (0 : Int) ≤ i by omega) (show (i : Int) < B.length by omega), wp_dget hD', I.get hx, List.length_nil, List.length_cons,
        wp_addT (show ((posl B i (it B i)).map AV.int).length + [AV.int (i : Int)].length ≤ 1000000 by rw [List.length_map]; simp; omega), wp_setD hD' (show D.length ≤ lim by omega)]
      exact ⟨by omega, by omega, .inl trivial, _, _, _, rfl, up.set (.inl (by simp)) _, get_set_eq hD', (I.step).1 hx⟩
  · rintro σ' ⟨hp', D, o4', rfl, up, hD', I⟩
    exact hP hp' D o4' up hD' (I.places lB)
theorem intsL_slice {l : List Int} {a b : Nat} : ((intsL l).drop a).take b = intsL ((l.drop a).take b) := by unfold intsL; rw [List.map_take, List.map_drop]
/-- the first list -/
theorem wp_first {n rx rf : Nat} {X : List Int} (hB : hp[r2]? = some (.list (intsL B))) (hX : hp[rx]? = some (.list (intsL X))) (hf : hp[rf]? = some (.list [])) (lX : X.length ≤ 6) (lB : B.length ≤ 1000) (n1 : 200 ≤ n) (n2 : n ≤ 204) {P : Fl → St → Prop}
    (hP : ∀ hp' A rf o6 o7, Pre hp hp' → hp'[rf]? = some (.list (intsL A)) → A.length ≤ 100 → P .next ⟨hp', [o0, some (.int n), some (.ref r2), o3, o4, some (.ref rf), o6, o7, o8, o9, o10, o11, o12, o13, o14, o15, o16, o17, o18, o19, o20]⟩) :
    Wp (forM' fuel (.list rx 0) (stM 6) (m_law_b2 C sa ns)) P ⟨hp, [o0, some (.int n), some (.ref r2), o3, o4, some (.ref rf), o6, o7, o8, o9, o10, o11, o12, o13, o14, o15, o16, o17, o18, o19, o20]⟩ := by
  have hlim : lim = 1000000 := rfl
  have hfu : fuel = 2000000 := rfl
  refine wp_for_list (fun i σ' => ∃ hp' A rf o6 o7, σ' = ⟨hp', [o0, some (.int n), some (.ref r2), o3, o4, some (.ref rf), o6, o7, o8, o9, o10, o11, o12, o13, o14, o15, o16, o17, o18, o19, o20]⟩ ∧ Pre hp hp' ∧ hp'[rf]? = some (.list (intsL A)) ∧ A.length ≤ 12 * i) rx (intsL X) ?_ ?_ ?_ (intsL X).length 0 fuel _ (by simp) (by rw [intsL_length, hfu]; omega)
    ⟨hp, [], rf, o6, o7, rfl, Pre.refl _, hf, by simp⟩
  · rintro i σ' ⟨hp', A, rf, o6, o7, rfl, pre, _⟩
    exact pre.get hX
  · rintro i hi σ' ⟨hp', A, rf, o6, o7, rfl, pre, hA, lA⟩
    have hi' : i < 6 := by rw [intsL_length] at hi; omega
    rw [intsL_get hi]
    unfold m_law_b2
    have hB' := pre.get hB
    have m1 : (0 : Int) < (n : Int) - 12 ∧ (n : Int) - 12 ≤ 1000000 := by omega
    have s1 : 0 ≤ it X i % ((n : Int) - 12) := Int.emod_nonneg _ (by omega)
    have s2 : 0 ≤ it X i / 200 % 9 := Int.emod_nonneg _ (by omega)
    have s3 : it X i / 200 % 9 < 9 := Int.emod_lt_of_pos _ (by omega)
    have s4 : it X i % ((n : Int) - 12) < (n : Int) - 12 := Int.emod_lt_of_pos _ (by omega)
    simp only [wp_bind, wp_pure, wp_ld, wp_st, wp_add, wp_iadd, wp_sub, wp_lt, wp_gt, wp_le, wp_ge, wp_eqI, wp_neI, wp_tup, wp_asCons, wp_asNil, wp_then, wp_thenR, wp_thenC, wp_thenB, List.getElem?_cons_zero, List.getElem?_cons_succ, List.set_cons_zero, List.set_cons_succ, wp_mod m1, wp_div (show (0 : Int) < 200 ∧ (200 : Int) ≤ 1000000 by decide), wp_mod (show (0 : Int) < 9 ∧ (9 : Int) ≤ 1000000 by decide), wp_slice hB' (show (intsL B).length ≤ lim by rw [intsL_length]; omega) s1 (show 0 ≤ it X i % ((n : Int) - 12) + 3 + it X i / 200 % 9 by omega), intsL_slice]
    generalize hS : (List.take ((it X i % ((n : Int) - 12) + 3 + it X i / 200 % 9).toNat - (it X i % ((n : Int) - 12)).toNat) (List.drop (it X i % ((n : Int) - 12)).toNat B)) = S
    have lS : S.length ≤ 11 := by rw [← hS, List.length_take]; omega
    have hA1 : (hp' ++ [.list (intsL S)] : List AO)[rf]? = some (.list (intsL A)) := get_app hA
    have hS1 : (hp' ++ [.list (intsL S)] : List AO)[hp'.length]? = some (.list (intsL S)) := get_last
    simp only [wp_addL hA1 hS1 (show (intsL A).length + (intsL S).length ≤ 1000000 by rw [intsL_length, intsL_length]; omega)]
    generalize hh2 : (hp' ++ [.list (intsL S)] : List AO) = hp2 at *
    have pre2 : Pre hp hp2 := by rw [← hh2]; exact pre.app _
    have fin : ∀ w : Int, Wp (mkListM [.int w]) (fun b σ' => Wp (addM (.ref hp2.length) b) (fun a σ' => Wp (stM 5 a) (fun a σ' => (Fl.next = Fl.next ∨ Fl.next = Fl.cont) ∧ ∃ hp' A rf o6 o7, σ' = ⟨hp', [o0, some (.int n), some (.ref r2), o3, o4, some (.ref rf), o6, o7, o8, o9, o10, o11, o12, o13, o14, o15, o16, o17, o18, o19, o20]⟩ ∧ Pre hp hp' ∧ hp'[rf]? = some (.list (intsL A)) ∧ A.length ≤ 12 * (i + 1)) σ') σ')
        ⟨hp2 ++ [.list (intsL A ++ intsL S)], [o0, some (.int n), some (.ref r2), o3, o4, some (.ref rf), some (.int (it X i)), some (.int (it X i % ((n : Int) - 12))), o8, o9, o10, o11, o12, o13, o14, o15, o16, o17, o18, o19, o20]⟩ := by
      intro w
      have h1 : ((hp2 ++ [.list (intsL A ++ intsL S)]) ++ [.list [.int w]] : List AO)[hp2.length]? = some (.list (intsL A ++ intsL S)) := get_app get_last
      have h2 : ((hp2 ++ [.list (intsL A ++ intsL S)]) ++ [.list [.int w]] : List AO)[(hp2 ++ [.list (intsL A ++ intsL S)] : List AO).length]? = some (.list [.int w]) := get_last
      rw [wp_list, wp_addL h1 h2 (by rw [List.length_append, intsL_length, intsL_length]; simp; omega), wp_st]
      simp only [List.set_cons_zero, List.set_cons_succ]
      refine ⟨by simp, .inl trivial, _, A ++ S ++ [w], _, _, _, rfl, ((pre2.app _).app _).app _, ?_, ?_⟩
      · rw [get_last, intsL_app, intsL_app]; rfl
      · simp only [List.length_append, List.length_cons, List.length_nil]; omega
    cases c : (it X i % 2 == 1)
    · simp only [wp_bind, wp_pure, wp_ld, wp_st, wp_add, wp_iadd, wp_sub, wp_lt, wp_gt, wp_le, wp_ge, wp_eqI, wp_neI, wp_tup, wp_asCons, wp_asNil, wp_then, wp_thenR, wp_thenC, wp_thenB, List.getElem?_cons_zero, List.getElem?_cons_succ, List.set_cons_zero, List.set_cons_succ, wp_mod (show (0 : Int) < 2 ∧ (2 : Int) ≤ 1000000 by decide), wp_ite, c, Bool.false_eq_true, if_false]
      have := fin 1
      simp only [wp_st, List.set_cons_zero, List.set_cons_succ, true_or, true_and] at this ⊢
      refine wp_mono this fun _ σ' h => wp_mono h fun _ σ'' h' => ?_
      obtain ⟨hp, lc⟩ := σ''
      rw [wp_st] at h' ⊢
      first | exact h' | exact .inl ⟨.inl trivial, h'⟩ | exact .inl h'
    · simp only [wp_bind, wp_pure, wp_ld, wp_st, wp_add, wp_iadd, wp_sub, wp_lt, wp_gt, wp_le, wp_ge, wp_eqI, wp_neI, wp_tup, wp_asCons, wp_asNil, wp_then, wp_thenR, wp_thenC, wp_thenB, List.getElem?_cons_zero, List.getElem?_cons_succ, List.set_cons_zero, List.set_cons_succ, wp_mod (show (0 : Int) < 2 ∧ (2 : Int) ≤ 1000000 by decide), wp_ite, c, if_true]
      have := fin 9
      simp only [wp_st, List.set_cons_zero, List.set_cons_succ, true_or, true_and] at this ⊢
      refine wp_mono this fun _ σ' h => wp_mono h fun _ σ'' h' => ?_
      obtain ⟨hp, lc⟩ := σ''
      rw [wp_st] at h' ⊢
      first | exact h' | exact .inl ⟨.inl trivial, h'⟩ | exact .inl h'
  · rintro σ' ⟨hp', A, rf, o6, o7, rfl, pre, hA, lA⟩
    rw [intsL_length] at lA
    exact hP hp' A rf _ _ pre hA (by omega)
end
end Mine

open PySem PySem.W PyProof.Rows
set_option Elab.async false
set_option maxRecDepth 100000
set_option maxHeartbeats 1000000
set_option linter.unusedVariables false
set_option linter.unusedSimpArgs false
namespace Mine
abbrev Win := Int × Int × Int × Int
def qAV (w : Win) : AV := .tup [.int w.1, .int w.2.1, .int w.2.2.1, .int w.2.2.2]
def OkW (m n : Nat) (w : Win) : Prop := 0 ≤ w.1 ∧ w.1 ≤ w.2.1 ∧ w.2.1 ≤ m ∧ 0 ≤ w.2.2.1 ∧ w.2.2.1 ≤ w.2.2.2 ∧ w.2.2.2 ≤ n
theorem wp_itemT {l : List AV} {i : Int} {v : AV} {P : AV → St → Prop} {σ : St} (hl : l.length ≤ 1000000) (h0 : 0 ≤ i) (h1 : i < l.length) (hv : l[i.toNat]? = some v) : Wp (itemM (.tup l) (.int i)) P σ = P v σ := by
  have e : idxOf i l.length = some i.toNat := by unfold idxOf; rw [if_pos h0, if_pos h1]
  exact wp_of (by unfold itemM; dsimp only; rw [if_pos hl, e, Option.bind_some, hv])
theorem wp_ne3 {a b c a' b' c' : Int} {P : Bool → St → Prop} {σ : St} (h : a = a' ∧ b = b' ∧ c = c') : Wp (neM (.tup [.int a, .int b, .int c]) (.tup [.int a', .int b', .int c'])) P σ = P false σ := by
  obtain ⟨rfl, rfl, rfl⟩ := h
  refine wp_of ?_
  unfold neM
  simp [eqAV, eqZip]
theorem wp_eq3 {a b c a' b' c' : Int} {P : Bool → St → Prop} {σ : St} (h : a = a' ∧ b = b' ∧ c = c') : Wp (eqM (.tup [.int a, .int b, .int c]) (.tup [.int a', .int b', .int c'])) P σ = P true σ := by
  obtain ⟨rfl, rfl, rfl⟩ := h
  refine wp_of ?_
  unfold eqM
  simp [eqAV, eqZip]
section
variable {C : Cx} {sa : Nat} {ns : List Int} {A B : List Int} {hp : List AO} {rf r2 rp : Nat} {o0 o1 o2 o3 o4 o5 o6 o7 o8 o9 o10 o11 o12 o13 o14 o15 o16 o17 o18 o19 o20 : Option AV}
theorem wp_windows {m n ry rw' : Nat} {Y : List Int} {W : List Win} (hY : hp[ry]? = some (.list (intsL Y))) (hW : hp[rw']? = some (.list (W.map qAV))) (oW : ∀ w ∈ W, OkW m n w) (lW : W.length ≤ 1) (lY : Y.length ≤ 6) (m1 : m ≤ 1000) (n1 : 1 ≤ n) (n2 : n ≤ 1000) {P : Fl → St → Prop}
    (hP : ∀ (hp' : List AO) (W : List Win) (rw' : Nat) (o12 o13 o14 o15 o16 : Option AV), Pre hp hp' → hp'[rw']? = some (.list (W.map qAV)) → (∀ w ∈ W, OkW m n w) → W.length ≤ 100 → P .next ⟨hp', [o0, some (.int n), o2, o3, o4, o5, o6, o7, o8, o9, some (.int m), some (.ref rw'), o12, o13, o14, o15, o16, o17, o18, o19, o20]⟩) :
    Wp (forM' fuel (.list ry 0) (stM 12) (m_law_b3 C sa ns)) P ⟨hp, [o0, some (.int n), o2, o3, o4, o5, o6, o7, o8, o9, some (.int m), some (.ref rw'), o12, o13, o14, o15, o16, o17, o18, o19, o20]⟩ := by
  have hlim : lim = 1000000 := rfl
  have hfu : fuel = 2000000 := rfl
  refine wp_for_list (fun i σ' => ∃ (hp' : List AO) (W : List Win) (rw' : Nat) (o12 o13 o14 o15 o16 : Option AV), σ' = ⟨hp', [o0, some (.int n), o2, o3, o4, o5, o6, o7, o8, o9, some (.int m), some (.ref rw'), o12, o13, o14, o15, o16, o17, o18, o19, o20]⟩ ∧ Pre hp hp' ∧ hp'[rw']? = some (.list (W.map qAV)) ∧ (∀ w ∈ W, OkW m n w) ∧ W.length ≤ 1 + 3 * i) ry (intsL Y) ?_ ?_ ?_ (intsL Y).length 0 fuel _ (by simp) (by rw [intsL_length, hfu]; omega)
    ⟨hp, W, rw', o12, o13, o14, o15, o16, rfl, Pre.refl _, hW, oW, by omega⟩
  · rintro i σ' ⟨hp', W, rw', o12, o13, o14, o15, o16, rfl, pre, _⟩
    exact pre.get hY
  · rintro i hi σ' ⟨hp', W, rw', o12, o13, o14, o15, o16, rfl, pre, hW, oW, lW⟩
    have hi' : i < 6 := by rw [intsL_length] at hi; omega
    rw [intsL_get hi]
    unfold m_law_b3
    generalize it Y i = y
    have a1 : 0 ≤ y % ((m : Int) + 1) := Int.emod_nonneg _ (by omega)
    have a2 : y % ((m : Int) + 1) < (m : Int) + 1 := Int.emod_lt_of_pos _ (by omega)
    have p1 : (0 : Int) < (m : Int) + 1 ∧ (m : Int) + 1 ≤ 1000000 := by omega
    generalize hal : y % ((m : Int) + 1) = alo at *
    have p2 : (0 : Int) < (m : Int) + 1 - alo ∧ (m : Int) + 1 - alo ≤ 1000000 := by omega
    have b1 : 0 ≤ y / 3 % ((m : Int) + 1 - alo) := Int.emod_nonneg _ (by omega)
    have b2 : y / 3 % ((m : Int) + 1 - alo) < (m : Int) + 1 - alo := Int.emod_lt_of_pos _ (by omega)
    generalize hah : y / 3 % ((m : Int) + 1 - alo) = ax at *
    have p3 : (0 : Int) < (n : Int) ∧ (n : Int) ≤ 1000000 := by omega
    have c1 : 0 ≤ y / 11 % (n : Int) := Int.emod_nonneg _ (by omega)
    have c2 : y / 11 % (n : Int) < (n : Int) := Int.emod_lt_of_pos _ (by omega)
    generalize hbl : y / 11 % (n : Int) = blo at *
    have p4 : (0 : Int) < (n : Int) - blo ∧ (n : Int) - blo ≤ 1000000 := by omega
    have d1 : 0 ≤ y / 7 % ((n : Int) - blo) := Int.emod_nonneg _ (by omega)
    have d2 : y / 7 % ((n : Int) - blo) < (n : Int) - blo := Int.emod_lt_of_pos _ (by omega)
    generalize hbh : y / 7 % ((n : Int) - blo) = bx at *
    have hlen : ∀ l : List AV, l.length = 3 → (W.map qAV).length + l.length ≤ 1000000 := fun l h => by rw [List.length_map]; omega
    simp only [wp_bind, wp_pure, wp_ld, wp_st, wp_add, wp_iadd, wp_sub, wp_lt, wp_gt, wp_le, wp_ge, wp_eqI, wp_neI, wp_tup, wp_asCons, wp_asNil, wp_then, wp_thenR, wp_thenC, wp_thenB, List.getElem?_cons_zero, List.getElem?_cons_succ, List.set_cons_zero, List.set_cons_succ, wp_mod p1, wp_div (show (0 : Int) < 3 ∧ (3 : Int) ≤ 1000000 by decide), wp_div (show (0 : Int) < 11 ∧ (11 : Int) ≤ 1000000 by decide), wp_div (show (0 : Int) < 7 ∧ (7 : Int) ≤ 1000000 by decide), hal, wp_mod p2, hah, wp_mod p3, hbl, wp_mod p4, hbh, wp_list, List.length_cons, List.length_nil]
    have hlast : ∀ l : List AV, (hp' ++ [.list l] : List AO)[hp'.length]? = some (.list l) := fun l => get_last
    have hW1 : ∀ l : List AV, (hp' ++ [.list l] : List AO)[rw']? = some (.list (W.map qAV)) := fun l => get_app hW
    refine ⟨by omega, by omega, by omega, by omega, ?_⟩
    rw [wp_addL (hW1 _) (hlast _) (hlen _ rfl), wp_st]
    simp only [List.set_cons_zero, List.set_cons_succ]
    refine .inl ⟨.inl trivial, _, W ++ ([(alo, alo + ax, 0, (n : Int)), (0, (m : Int), blo, (n : Int)), (alo, alo + ax, blo, blo + 1 + bx)] : List Win), _, _, _, _, _, _, rfl, (pre.app _).app _, ?_, fun w hw => ?_, ?_⟩
    · rw [get_last, List.map_append]; rfl
    · rcases List.mem_append.mp hw with h | h
      · exact oW w h
      · simp only [List.mem_cons, List.not_mem_nil, or_false] at h
        rcases h with rfl | rfl | rfl <;> unfold OkW <;> dsimp only <;> omega
    · simp only [List.length_append, List.length_cons, List.length_nil]; omega
  · rintro σ' ⟨hp', W, rw', o12, o13, o14, o15, o16, rfl, pre, hW, oW, lW⟩
    rw [intsL_length] at lW
    exact hP hp' W rw' _ _ _ _ _ pre hW oW (by omega)
/-- what the two matchers tell in one window -/
theorem wp_one (H : Ok C) {mf mn rdf rjf rdn rjn : Nat} {Df Dn Dp : List (Int × AV)} {n : Nat} {w : Win} (hA : hp[rf]? = some (.list (intsL A))) (hB : hp[r2]? = some (.list (intsL B))) (hD : hp[rp]? = some (.dict Dp)) (PR : PlacesR Dp B (fun x => decide (x ∉ noise)))
    {raf rbf ran rbn : Nat} (Ff : FH hp mf raf rbf rdf rjf A B (fun x => decide (x ∉ noise)) [] Df) (Fn : FH hp mn ran rbn rdn rjn A B (fun x => decide (x ∉ noise)) [1, 2, 3] Dn) (hw : OkW A.length B.length w) {P : Fl → St → Prop}
    (hP : ∀ hp' o18 o19 o20, Pre hp hp' → P .next ⟨hp', [o0, o1, some (.ref r2), some (.ref rp), o4, some (.ref rf), o6, o7, some (.ref mf), some (.ref mn), o10, o11, o12, o13, o14, o15, o16, some (qAV w), o18, o19, o20]⟩) :
    Wp (m_law_b4 C sa ns) P ⟨hp, [o0, o1, some (.ref r2), some (.ref rp), o4, some (.ref rf), o6, o7, some (.ref mf), some (.ref mn), o10, o11, o12, o13, o14, o15, o16, some (qAV w), o18, o19, o20]⟩ := by
  have hlim : lim = 1000000 := rfl
  have lA := Ff.lA
  have lB := Ff.lB
  obtain ⟨alo, ahi, blo, bhi⟩ := w
  obtain ⟨w1, w2, w3, w4, w5, w6⟩ := hw
  dsimp only at w1 w2 w3 w4 w5 w6
  unfold m_law_b4 qAV
  dsimp only
  rw [wp_bind, wp_bind]
  simp only [wp_bind, wp_pure, wp_ld, List.getElem?_cons_zero, List.getElem?_cons_succ]
  refine wp_mono (wp_heart hA hB hD PR (by omega) (by omega) w1 w2 w3 w4 w6) fun r σ' ⟨hσ, i, j, k, hr, hh⟩ => ?_
  subst hσ hr
  obtain ⟨i1, i2, j1, j2⟩ := heart_in w2 w5 hh
  rw [wp_st, wp_then]
  simp only [wp_bind, wp_pure, wp_ld, List.getElem?_cons_zero, List.getElem?_cons_succ, List.set_cons_zero, List.set_cons_succ]
  refine wp_mono (wp_grown (p := fun x => decide (x ∈ noise)) (.inr ⟨noise, rfl, rfl⟩) hA hB (by omega) (by omega) w1 i1 (by omega) i2 w3 w4 j1 j2 w6) fun r σ' ⟨hσ, t, u, gl, gr, hr⟩ => ?_
  subst hσ hr
  rw [wp_st, wp_then]
  simp only [wp_bind, wp_pure, wp_ld, List.getElem?_cons_zero, List.getElem?_cons_succ, List.set_cons_zero, List.set_cons_succ]
  have inL : alo ≤ i - t ∧ blo ≤ j - t := by
    by_cases h0 : t = 0
    · subst h0; simp; exact ⟨i1, j1⟩
    · have := okL_iff.mp (gl.1 (t - 1) (by omega))
      omega
  have inR : i + k + u ≤ ahi ∧ j + k + u ≤ bhi := by
    by_cases h0 : u = 0
    · subst h0; simp; exact ⟨i2, j2⟩
    · have := okR_iff.mp (gr.1 (u - 1) (by omega))
      omega
  refine wp_mono (wp_grown (kinds := .none) (p := fun _ => true) (i := i - t) (j := j - t) (k := k + t + u) (.inl ⟨rfl, rfl⟩) hA hB (by omega) (by omega) w1 inL.1 (by omega) (by omega) w3 w4 inL.2 (by omega) w6) fun r σ' ⟨hσ, t', u', gl', gr', hr⟩ => ?_
  subst hσ hr
  have e1 : i - (t : Int) + (k + t + u) = i + k + u := by omega
  have e2 : j - (t : Int) + (k + t + u) = j + k + u := by omega
  rw [e1, e2] at gr'
  have GL := gl.all gl'
  have GR := gr.all gr'
  rw [wp_st, wp_then]
  simp only [wp_bind, wp_pure, wp_ld, List.getElem?_cons_zero, List.getElem?_cons_succ, List.set_cons_zero, List.set_cons_succ]
  obtain ⟨ln, hln, _⟩ := Fn.hS
  have q0 : ∀ (P : AV → St → Prop) (σ : St), Wp (itemM (.tup [.int alo, .int ahi, .int blo, .int bhi]) (.int 0)) P σ = P (.int alo) σ := fun P σ => wp_itemT (by simp) (by omega) (by simp) rfl
  have q1 : ∀ (P : AV → St → Prop) (σ : St), Wp (itemM (.tup [.int alo, .int ahi, .int blo, .int bhi]) (.int 1)) P σ = P (.int ahi) σ := fun P σ => wp_itemT (by simp) (by omega) (by simp) rfl
  have q2 : ∀ (P : AV → St → Prop) (σ : St), Wp (itemM (.tup [.int alo, .int ahi, .int blo, .int bhi]) (.int 2)) P σ = P (.int blo) σ := fun P σ => wp_itemT (by simp) (by omega) (by simp) rfl
  have q3 : ∀ (P : AV → St → Prop) (σ : St), Wp (itemM (.tup [.int alo, .int ahi, .int blo, .int bhi]) (.int 3)) P σ = P (.int bhi) σ := fun P σ => wp_itemT (by simp) (by omega) (by simp) rfl
  simp only [wp_instM hln, q0, q1, q2, q3, wp_ld, List.getElem?_cons_zero, List.getElem?_cons_succ]
  refine wp_flm H (σ := ⟨hp, _⟩) Fn w1 w2 w3 w4 w5 w6 fun i' j' k' t1 t2 t3 t4 hp1 T pre1 => ?_
  dsimp only at pre1 ⊢
  obtain ⟨ei, ej, ek⟩ := Heart.uniq hh T.heart
  subst ei ej ek
  obtain ⟨e1, e2, g3, g4⟩ := told_named w2 w4 w5 T (fun j _ _ => by
    show decide (it B j ∉ noise) = !decide (it B j ∈ [1, 2, 3])
    simp [noise])
  have g3' : GrowL A B (fun x => decide (x ∈ noise)) alo blo i j t3 := g3
  have g4' : GrowR A B (fun x => decide (x ∈ noise)) ahi bhi (i + k) (j + k) t4 := g4
  have e3 := g3'.uniq gl
  have e4 := g4'.uniq gr
  subst e1 e2 e3 e4
  have fe : i - ((0 : Nat) : Int) - (t3 : Int) = i - t3 ∧ j - ((0 : Nat) : Int) - (t3 : Int) = j - t3 ∧ (k : Int) + ((0 : Nat) : Int) + ((0 : Nat) : Int) + t3 + t4 = k + t3 + t4 := by omega
  simp only [wp_plain, wp_ne3 fe, wp_ite, Bool.false_eq_true, if_false, wp_pure, wp_then, wp_bind, wp_ld, List.getElem?_cons_zero, List.getElem?_cons_succ]
  obtain ⟨lf, hlf, _⟩ := Ff.hS
  simp only [wp_instM (pre1.get hlf), q0, q1, q2, q3, wp_ld, List.getElem?_cons_zero, List.getElem?_cons_succ]
  refine wp_flm H (σ := ⟨hp1, _⟩) (Ff.pre pre1) w1 w2 w3 w4 w5 w6 fun i' j' k' t1 t2 s3 s4 hp2 T' pre2 => ?_
  dsimp only at pre2 ⊢
  obtain ⟨ei, ej, ek⟩ := Heart.uniq hh T'.heart
  subst ei ej ek
  obtain ⟨e3, e4, g1, g2⟩ := told_free T' (fun x => by simp)
  have e1 := g1.uniq GL
  have e2 := g2.uniq GR
  subst e1 e2 e3 e4
  have ff : i - ((t3 + t' : Nat) : Int) - ((0 : Nat) : Int) = i - (t3 : Int) - t' ∧ j - ((t3 + t' : Nat) : Int) - ((0 : Nat) : Int) = j - (t3 : Int) - t' ∧ (k : Int) + ((t3 + t' : Nat) : Int) + ((t4 + u' : Nat) : Int) + ((0 : Nat) : Int) + ((0 : Nat) : Int) = k + t3 + t4 + t' + u' := by omega
  simp only [wp_plain, wp_ne3 ff, wp_ite, Bool.false_eq_true, if_false, wp_pure, wp_then, wp_bind, wp_ld, List.getElem?_cons_zero, List.getElem?_cons_succ]
  exact hP hp2 _ _ _ (pre1.trans pre2)
end
end Mine

open PySem PySem.W PyProof.Rows
set_option Elab.async false
set_option maxRecDepth 100000
set_option maxHeartbeats 1000000
set_option linter.unusedVariables false
set_option linter.unusedSimpArgs false
namespace Mine
theorem posl_count {B : List Int} {x : Int} : ∀ {i : Nat}, i ≤ B.length → (posl B i x).length = (B.take i).count x
  | 0, _ => by simp [posl]
  | i + 1, h => by
    have ih := posl_count (B := B) (x := x) (i := i) (by omega)
    have e : B.take (i + 1) = B.take i ++ [B[i]] := by simp
    have e2 : it B i = B[i] := by unfold it; simp [List.getD, List.getElem?_eq_getElem (show i < B.length by omega)]
    rw [posl_succ, e, List.count_append, ← ih, e2]
    split
    · rename_i h'; rw [h']; simp
    · rename_i h'; simp [List.count_singleton, h']
theorem keysL_iff {B : List Int} {x : Int} : x ∈ keysL B B.length ↔ x ∈ B := by
  rw [keysL_mem]
  constructor
  · rintro ⟨j, hj, e⟩
    have e2 : it B j = B[j] := by unfold it; simp [List.getD, List.getElem?_eq_getElem hj]
    rw [← e, e2]; exact List.getElem_mem hj
  · intro h
    obtain ⟨j, hj, e⟩ := List.getElem_of_mem h
    refine ⟨j, hj, ?_⟩
    unfold it; simp [List.getD, List.getElem?_eq_getElem hj, e]
def popOk (n : Nat) : Bool := (secB n).zipIdx.all (fun p => p.1 == 100 + (p.2 : Int) || decide (p.1 ∈ [1, 2, 3, 4])) && noise.all (fun x => decide (3 < (secB n).count x)) && decide ((secB n).count 4 ≤ 3)
theorem popOk_all : ∀ n ∈ [200, 201, 202, 203, 204], popOk n = true := by decide +kernel
theorem one_at {l : List Int} {c : Int} (hs : l.Pairwise (· < ·)) (h : ∀ x ∈ l, x = c) : l.length ≤ 1 := by
  match l, hs, h with
  | [], _, _ => simp
  | [a], _, _ => simp
  | a :: b :: r, hs, h =>
    have := (List.pairwise_cons.mp hs).1 b (by simp)
    have := h a (by simp)
    have := h b (by simp)
    omega
theorem sec_facts {n : Nat} (h1 : 200 ≤ n) (h2 : n ≤ 204) : (∀ x ∈ keysL (secB n) (secB n).length, popF true (secB n).length (posl (secB n) (secB n).length) x = decide (x ∈ noise)) ∧ ∀ x ∈ noise, x ∈ keysL (secB n) (secB n).length := by
  have hm : n ∈ [200, 201, 202, 203, 204] := by
    have : n = 200 ∨ n = 201 ∨ n = 202 ∨ n = 203 ∨ n = 204 := by omega
    simpa using this
  have h := popOk_all n hm
  unfold popOk at h
  rw [Bool.and_eq_true, Bool.and_eq_true, List.all_eq_true, List.all_eq_true] at h
  obtain ⟨⟨ha, hb⟩, hc⟩ := h
  have hn : ∀ x ∈ noise, 3 < (secB n).count x := fun x hx => by simpa using hb x hx
  refine ⟨fun x hx => ?_, fun x hx => keysL_iff.mpr (List.count_pos_iff.mp (by have := hn x hx; omega))⟩
  have at_ : ∀ j : Int, 0 ≤ j → j < (secB n).length → it (secB n) j = 100 + j ∨ it (secB n) j ∈ [1, 2, 3, 4] := fun j h0 hj => by
    have hj' : j.toNat < (secB n).length := by omega
    have e2 : it (secB n) j = (secB n)[j.toNat] := by unfold it; simp [List.getD, List.getElem?_eq_getElem hj']
    have hmem : ((secB n)[j.toNat], j.toNat) ∈ (secB n).zipIdx := by
      refine List.mem_iff_getElem.mpr ⟨j.toNat, by simpa using hj', ?_⟩
      simp
    have := ha _ hmem
    rw [Bool.or_eq_true] at this
    rw [e2]
    rcases this with h | h
    · left
      have := eq_of_beq h
      dsimp only at this
      omega
    · right; simpa using h
  have cnt : (posl (secB n) (secB n).length x).length = (secB n).count x := by rw [posl_count (Nat.le_refl _), List.take_length]
  have key : decide (3 < (posl (secB n) (secB n).length x).length) = decide (x ∈ noise) := by
    by_cases hx4 : x ∈ [1, 2, 3, 4]
    · by_cases hxn : x ∈ noise
      · rw [cnt]; have := hn x hxn; simp [this, hxn]
      · have e4 : x = 4 := by
          simp only [List.mem_cons, List.not_mem_nil, or_false, noise] at hx4 hxn
          omega
        have : ¬ 3 < (secB n).count 4 := by have : (secB n).count 4 ≤ 3 := by simpa using hc
                                            omega
        rw [cnt, e4]; rw [e4] at hxn; simp [this, hxn]
    · have hxn : x ∉ noise := fun h => hx4 (by simp only [List.mem_cons, List.not_mem_nil, or_false, noise] at h ⊢; omega)
      have := one_at (c := x - 100) (posl_sorted (B := secB n) (i := (secB n).length) (x := x)) fun j hj => by
        obtain ⟨h0, h1, h2⟩ := posl_mem.mp hj
        rcases at_ j h0 h1 with h | h
        · omega
        · rw [h2] at h; exact absurd h hx4
      have h3 : ¬ 3 < (posl (secB n) (secB n).length x).length := by omega
      simp [h3, hxn]
  rw [← key]
  unfold popF
  have e1 : (200 : Int) ≤ ((secB n).length : Int) := by rw [secB_length]; omega
  have e2 : ((secB n).length : Int) / 100 + 1 = 3 := by rw [secB_length]; omega
  simp only [e1, e2, decide_true, Bool.true_and]
  apply decide_eq_decide.mpr
  omega
theorem filt_noise {f : Int → Bool} (h : ∀ y ∈ eight, f y = decide (y ∈ noise)) : eight.filter f = [1, 2, 3] := by
  rw [List.filter_congr h]; decide +kernel
theorem wp_sortedS {n : Nat} {l : List Int} {P : AV → St → Prop} {hp : List AO} {lc : List (Option AV)} (h : hp[n]? = some (.set l)) : Wp (sortedM [.ref n]) P ⟨hp, lc⟩ = P (.ref hp.length) ⟨hp ++ [.list (intsL l)], lc⟩ := wp_of (by unfold sortedM; simp only [h]; rfl)
theorem eqZip_ints {hp : List AO} {d : Nat} : ∀ {l : List Int}, eqZip (eqAV hp (d + 1)) (intsL l) (intsL l) = some true
  | [] => rfl
  | a :: l => by
    show (eqAV hp (d + 1) (.int a) (.int a)).bind (fun x => (eqZip (eqAV hp (d + 1)) (intsL l) (intsL l)).map fun y => x && y) = some true
    rw [eqZip_ints]
    simp [eqAV]
theorem eqAV_lists {hp : List AO} {d n m : Nat} {l : List Int} (h : hp[n]? = some (.list (intsL l))) (h' : hp[m]? = some (.list (intsL l))) : eqAV hp (d + 2) (.ref n) (.ref m) = some true := by
  unfold eqAV
  simp only [h, h']
  split
  · rfl
  · rw [if_pos trivial, eqZip_ints]
theorem wp_neL {n m : Nat} {l : List Int} {P : Bool → St → Prop} {hp : List AO} {lc : List (Option AV)} (h : hp[n]? = some (.list (intsL l))) (h' : hp[m]? = some (.list (intsL l))) : Wp (neM (.ref n) (.ref m)) P ⟨hp, lc⟩ = P false ⟨hp, lc⟩ := wp_of (by unfold neM; rw [eqAV_lists h h']; rfl)
theorem wp_neD {n m : Nat} {l l' : List (Int × AV)} {ql : Int → List Int} {P : Bool → St → Prop} {hp : List AO} {lc : List (Option AV)} (h : hp[n]? = some (.dict l)) (h' : hp[m]? = some (.dict l')) (hk : l.map (·.1) = l'.map (·.1))
    (hl : ∀ kv ∈ l, ∃ p, kv.2 = .ref p ∧ hp[p]? = some (.list (intsL (ql kv.1)))) (hl' : ∀ kv ∈ l', ∃ p, kv.2 = .ref p ∧ hp[p]? = some (.list (intsL (ql kv.1)))) : Wp (neDM (.ref n) (.ref m)) P ⟨hp, lc⟩ = P false ⟨hp, lc⟩ := by
  refine wp_of ?_
  have hits : ∀ l₀ : List (Int × AV), (∀ kv ∈ l₀, kv ∈ l) → hitsM hp l' l₀ = some true := by
    intro l₀
    induction l₀ with
    | nil => intro _; rfl
    | cons kv r ih =>
      intro hs
      obtain ⟨k, v⟩ := kv
      have hkv := hs (k, v) (by simp)
      have hmem : k ∈ l'.map (·.1) := by rw [← hk]; exact List.mem_map.mpr ⟨_, hkv, rfl⟩
      obtain ⟨y, hy⟩ := getD_some hmem
      obtain ⟨p, e, hp1⟩ := hl _ hkv
      obtain ⟨p', e', hp2⟩ := hl' _ (getD_mem hy)
      dsimp only at e e' hp1 hp2
      subst e e'
      unfold hitsM
      rw [hy]
      dsimp only
      rw [eqAV_lists hp1 hp2, Option.bind_some, ih (fun kv h => hs kv (List.mem_cons_of_mem _ h))]
      rfl
  have hlen : l.length = l'.length := by rw [← List.length_map (f := (·.1)), hk, List.length_map]
  unfold neDM
  simp only [h, h', hits l (fun _ h => h), hlen]
  simp
section
variable {C : Cx}
theorem junk_none : JunkIs C .none (fun _ => false) := .inl ⟨rfl, fun _ => rfl⟩
theorem wp_named {x : Int} {P : AV → St → Prop} {σ : St} : Wp (g__law_named C [.int x]) P σ = P (.bool (decide (x ∈ noise))) σ := by
  refine wp_of ?_
  have key : Wp (g__law_named C [.int x]) (fun r σ' => r = .bool (decide (x ∈ noise)) ∧ σ' = σ) σ := by
    refine wp_fn (lc := [some (.int x)]) rfl ?_
    unfold m__law_named
    simp only [wp_bind, wp_pure, wp_ld, wp_st, wp_add, wp_iadd, wp_sub, wp_lt, wp_gt, wp_le, wp_ge, wp_eqI, wp_neI, wp_tup, wp_asCons, wp_asNil, wp_then, wp_thenR, wp_thenC, wp_thenB, List.getElem?_cons_zero, List.getElem?_cons_succ, List.set_cons_zero, List.set_cons_succ, wp_inT, retOf]
    exact ⟨trivial, trivial⟩
  obtain ⟨a, σ', e, rfl, rfl⟩ := key
  exact e
theorem junk_named (H : Ok C) : JunkIs C (.st (.ref 254)) (fun x => decide (x ∈ noise)) := by
  refine .inr ⟨⟨rfl, fun hp lc P => wp_of ?_⟩, fun hp lc x P => ?_⟩
  · have : isFnRef C.K (.ref 254) = true := fn__law_named H
    unfold truthM
    dsimp only
    rw [if_pos this]
  · have e : appM (FJ C) (.st (.ref 254)) [.int x] = g__law_named C [.int x] := by
      unfold appM FJ; dsimp only; rw [if_pos rfl]
    rw [e, wp_named, wp_truB]
end
end Mine

open PySem PySem.W PyProof.Rows
set_option Elab.async false
set_option maxRecDepth 100000
set_option maxHeartbeats 4000000
set_option linter.unusedVariables false
set_option linter.unusedSimpArgs false
namespace Mine
theorem c_mk {l : List AV} {P : AV → St → Prop} {hp : List AO} {lc : List (Option AV)} (hl : l.length ≤ 64) (h : ∀ hp' r, Pre hp hp' → hp'[r]? = some (.list l) → P (.ref r) ⟨hp', lc⟩) : Wp (mkListM l) P ⟨hp, lc⟩ := by
  rw [wp_list]; exact ⟨hl, h _ _ ((Pre.refl hp).app _) get_last⟩
theorem c_sliceS0 {sa : Nat} {ns : List Int} {b : Int} {P : AV → St → Prop} {hp : List AO} {lc : List (Option AV)} (hb : 0 ≤ b) (h : ∀ hp' r, Pre hp hp' → hp'[r]? = some (.list (intsL ((ns.drop 0).take (b.toNat - 0)))) → P (.ref r) ⟨hp', lc⟩) : Wp (sliceS sa ns (.st (.ref sa)) .none (.int b)) P ⟨hp, lc⟩ := by
  rw [wp_sliceS0 hb]; exact h _ _ ((Pre.refl hp).app _) get_last
theorem c_sliceS {sa : Nat} {ns : List Int} {a b : Int} {P : AV → St → Prop} {hp : List AO} {lc : List (Option AV)} (ha : 0 ≤ a) (hb : 0 ≤ b) (h : ∀ hp' r, Pre hp hp' → hp'[r]? = some (.list (intsL ((ns.drop a.toNat).take (b.toNat - a.toNat)))) → P (.ref r) ⟨hp', lc⟩) : Wp (sliceS sa ns (.st (.ref sa)) (.int a) (.int b)) P ⟨hp, lc⟩ := by
  rw [wp_sliceS ha hb]; exact h _ _ ((Pre.refl hp).app _) get_last
theorem c_listM {n : Nat} {l : List AV} {P : AV → St → Prop} {hp : List AO} {lc : List (Option AV)} (hn : hp[n]? = some (.list l)) (hl : l.length ≤ lim) (h : ∀ hp' r, Pre hp hp' → hp'[r]? = some (.list l) → P (.ref r) ⟨hp', lc⟩) : Wp (listM [.ref n]) P ⟨hp, lc⟩ := by
  rw [wp_listM hn hl]; exact h _ _ ((Pre.refl hp).app _) get_last
theorem c_sliceN {n : Nat} {a : Int} {l : List Int} {P : AV → St → Prop} {hp : List AO} {lc : List (Option AV)} (hn : hp[n]? = some (.list (intsL l))) (hl : l.length ≤ lim) (ha : 0 ≤ a) (h : ∀ hp' r, Pre hp hp' → hp'[r]? = some (.list (intsL ((l.drop a.toNat).take (l.length - a.toNat)))) → P (.ref r) ⟨hp', lc⟩) : Wp (sliceM (.ref n) (.int a) .none) P ⟨hp, lc⟩ := by
  rw [wp_sliceN hn (by rw [intsL_length]; exact hl) ha, intsL_slice, intsL_length]; exact h _ _ ((Pre.refl hp).app _) get_last
theorem c_addL {n m : Nat} {a b : List AV} {P : AV → St → Prop} {hp : List AO} {lc : List (Option AV)} (h : hp[n]? = some (.list a)) (h' : hp[m]? = some (.list b)) (hl : a.length + b.length ≤ 1000000) (hP : ∀ hp' r, Pre hp hp' → hp'[r]? = some (.list (a ++ b)) → P (.ref r) ⟨hp', lc⟩) : Wp (addM (.ref n) (.ref m)) P ⟨hp, lc⟩ := by
  rw [wp_addL h h' hl]; exact hP _ _ ((Pre.refl hp).app _) get_last
theorem c_sortedS {n : Nat} {l : List Int} {P : AV → St → Prop} {hp : List AO} {lc : List (Option AV)} (hn : hp[n]? = some (.set l)) (h : ∀ hp' r, Pre hp hp' → hp'[r]? = some (.list (intsL l)) → P (.ref r) ⟨hp', lc⟩) : Wp (sortedM [.ref n]) P ⟨hp, lc⟩ := by
  rw [wp_sortedS hn]; exact h _ _ ((Pre.refl hp).app _) get_last
section
variable {C : Cx} {sa : Nat} {ns : List Int}
theorem noise_eight {x : Int} (h : x ∈ noise) : x ∈ eight := by
  simp only [noise, List.mem_cons, List.not_mem_nil, or_false] at h
  rcases h with rfl | rfl | rfl <;> decide
theorem law_run (H : Ok C) (hns : ns.length ≤ 63) : Wp (g_law C sa ns [.st (.ref sa)]) (fun r _ => r = .bool true) ⟨[], []⟩ := by
  have hlim : lim = 1000000 := rfl
  have hfu : fuel = 2000000 := rfl
  obtain ⟨n, hn⟩ : ∃ n : Nat, 200 + ns.sum % 5 = (n : Int) := ⟨(200 + ns.sum % 5).toNat, by have := Int.emod_nonneg ns.sum (show (5 : Int) ≠ 0 by decide); omega⟩
  have n1 : 200 ≤ n := by have := Int.emod_nonneg ns.sum (show (5 : Int) ≠ 0 by decide); omega
  have n2 : n ≤ 204 := by have := Int.emod_lt_of_pos ns.sum (show (0 : Int) < 5 by decide); omega
  obtain ⟨popN, inN⟩ := sec_facts n1 n2
  generalize hBB : secB n = B at *
  have lB : B.length = n := by rw [← hBB, secB_length]
  refine wp_fn (lc := [some (.st (.ref sa)), none, none, none, none, none, none, none, none, none, none, none, none, none, none, none, none, none, none, none, none]) rfl ?_
  unfold m_law
  simp only [wp_bind, wp_pure, wp_ld, wp_st, wp_add, wp_iadd, wp_sub, wp_lt, wp_gt, wp_le, wp_ge, wp_eqI, wp_neI, wp_tup, wp_asCons, wp_asNil, wp_then, wp_thenR, wp_thenC, wp_thenB, List.getElem?_cons_zero, List.getElem?_cons_succ, List.set_cons_zero, List.set_cons_succ, wp_sumS, wp_mod (show (0 : Int) < 5 ∧ (5 : Int) ≤ 1000000 by decide), hn]
  refine wp_second n1 n2 fun hp1 r2 pre1 hr2 => ?_
  rw [hBB] at hr2
  simp only [wp_bind, wp_pure, wp_ld, wp_st, wp_add, wp_iadd, wp_sub, wp_lt, wp_gt, wp_le, wp_ge, wp_eqI, wp_neI, wp_tup, wp_asCons, wp_asNil, wp_then, wp_thenR, wp_thenC, wp_thenB, List.getElem?_cons_zero, List.getElem?_cons_succ, List.set_cons_zero, List.set_cons_succ, wp_alloc, wp_range1, wp_iterR (a := 0) (b := n) (by omega) (by omega) (by omega) (by omega)]
  have e0 : ((n : Int) - 0).toNat = B.length := by omega
  rw [e0]
  refine wp_places (get_app hr2) get_last (by omega) fun hp2 Dp o4 up2 hDp PR => ?_
  have hB2 : hp2[r2]? = some (.list (intsL B)) := up2.get (get_app hr2) (by have := get_lt hr2; simp; omega)
  generalize hp1.length = rp at *
  try simp only [wp_bind, wp_pure, wp_ld, wp_st, wp_add, wp_iadd, wp_sub, wp_lt, wp_gt, wp_le, wp_ge, wp_eqI, wp_neI, wp_tup, wp_asCons, wp_asNil, wp_then, wp_thenR, wp_thenC, wp_thenB, List.getElem?_cons_zero, List.getElem?_cons_succ, List.set_cons_zero, List.set_cons_succ]
  refine c_mk (by simp) fun hp3 rf0 pre3 hf3 => ?_
  try simp only [wp_bind, wp_pure, wp_ld, wp_st, wp_add, wp_iadd, wp_sub, wp_lt, wp_gt, wp_le, wp_ge, wp_eqI, wp_neI, wp_tup, wp_asCons, wp_asNil, wp_then, wp_thenR, wp_thenC, wp_thenB, List.getElem?_cons_zero, List.getElem?_cons_succ, List.set_cons_zero, List.set_cons_succ]
  try simp only [wp_bind, wp_pure, wp_ld, wp_st, wp_add, wp_iadd, wp_sub, wp_lt, wp_gt, wp_le, wp_ge, wp_eqI, wp_neI, wp_tup, wp_asCons, wp_asNil, wp_then, wp_thenR, wp_thenC, wp_thenB, List.getElem?_cons_zero, List.getElem?_cons_succ, List.set_cons_zero, List.set_cons_succ]
  refine c_sliceS0 (by decide) fun hp4 rx1 pre4 hx1 => ?_
  try simp only [wp_bind, wp_pure, wp_ld, wp_st, wp_add, wp_iadd, wp_sub, wp_lt, wp_gt, wp_le, wp_ge, wp_eqI, wp_neI, wp_tup, wp_asCons, wp_asNil, wp_then, wp_thenR, wp_thenC, wp_thenB, List.getElem?_cons_zero, List.getElem?_cons_succ, List.set_cons_zero, List.set_cons_succ]
  refine c_listM hx1 (by rw [intsL_length, List.length_take]; omega) fun hp5 rx2 pre5 hx2 => ?_
  try simp only [wp_bind, wp_pure, wp_ld, wp_st, wp_add, wp_iadd, wp_sub, wp_lt, wp_gt, wp_le, wp_ge, wp_eqI, wp_neI, wp_tup, wp_asCons, wp_asNil, wp_then, wp_thenR, wp_thenC, wp_thenB, List.getElem?_cons_zero, List.getElem?_cons_succ, List.set_cons_zero, List.set_cons_succ]
  try simp only [wp_bind, wp_pure, wp_ld, wp_st, wp_add, wp_iadd, wp_sub, wp_lt, wp_gt, wp_le, wp_ge, wp_eqI, wp_neI, wp_tup, wp_asCons, wp_asNil, wp_then, wp_thenR, wp_thenC, wp_thenB, List.getElem?_cons_zero, List.getElem?_cons_succ, List.set_cons_zero, List.set_cons_succ]
  refine c_mk (by simp) fun hp6 rx3 pre6 hx3 => ?_
  try simp only [wp_bind, wp_pure, wp_ld, wp_st, wp_add, wp_iadd, wp_sub, wp_lt, wp_gt, wp_le, wp_ge, wp_eqI, wp_neI, wp_tup, wp_asCons, wp_asNil, wp_then, wp_thenR, wp_thenC, wp_thenB, List.getElem?_cons_zero, List.getElem?_cons_succ, List.set_cons_zero, List.set_cons_succ]
  have hx3' : hp6[rx3]? = some (.list (intsL [17, 43, 2226])) := hx3
  simp only [wp_bind, wp_pure, wp_ld, wp_st, wp_add, wp_iadd, wp_sub, wp_lt, wp_gt, wp_le, wp_ge, wp_eqI, wp_neI, wp_tup, wp_asCons, wp_asNil, wp_then, wp_thenR, wp_thenC, wp_thenB, List.getElem?_cons_zero, List.getElem?_cons_succ, List.set_cons_zero, List.set_cons_succ, wp_lenS]
  refine c_sliceN hx3' (by simp [hlim]) (by omega) fun hp7 rx4 pre7 hx4 => ?_
  try simp only [wp_bind, wp_pure, wp_ld, wp_st, wp_add, wp_iadd, wp_sub, wp_lt, wp_gt, wp_le, wp_ge, wp_eqI, wp_neI, wp_tup, wp_asCons, wp_asNil, wp_then, wp_thenR, wp_thenC, wp_thenB, List.getElem?_cons_zero, List.getElem?_cons_succ, List.set_cons_zero, List.set_cons_succ]
  refine c_addL ((pre6.trans pre7).get hx2) hx4 (by rw [intsL_length, intsL_length, List.length_take, List.length_take]; simp; omega) fun hp8 rx pre8 hx => ?_
  try simp only [wp_bind, wp_pure, wp_ld, wp_st, wp_add, wp_iadd, wp_sub, wp_lt, wp_gt, wp_le, wp_ge, wp_eqI, wp_neI, wp_tup, wp_asCons, wp_asNil, wp_then, wp_thenR, wp_thenC, wp_thenB, List.getElem?_cons_zero, List.getElem?_cons_succ, List.set_cons_zero, List.set_cons_succ]
  rw [← intsL_app] at hx
  simp only [wp_iterL hx]
  have q3 := pre3
  have q8 : Pre hp2 hp8 := ((((q3.trans pre4).trans pre5).trans pre6).trans pre7).trans pre8
  have f8 : hp8[rf0]? = some (.list []) := ((((pre4.trans pre5).trans pre6).trans pre7).trans pre8).get hf3
  refine wp_first (q8.get hB2) hx f8 (by rw [List.length_append, List.length_take, List.length_take]; simp; omega) (by omega) n1 n2 fun hp9 A rf o6 o7 pre9 hA lA => ?_
  have q9 := q8.trans pre9
  try simp only [wp_bind, wp_pure, wp_ld, wp_st, wp_add, wp_iadd, wp_sub, wp_lt, wp_gt, wp_le, wp_ge, wp_eqI, wp_neI, wp_tup, wp_asCons, wp_asNil, wp_then, wp_thenR, wp_thenC, wp_thenB, List.getElem?_cons_zero, List.getElem?_cons_succ, List.set_cons_zero, List.set_cons_succ]
  refine c_listM hA (by rw [intsL_length]; omega) fun hp10 ra1 pre10 ha1 => ?_
  try simp only [wp_bind, wp_pure, wp_ld, wp_st, wp_add, wp_iadd, wp_sub, wp_lt, wp_gt, wp_le, wp_ge, wp_eqI, wp_neI, wp_tup, wp_asCons, wp_asNil, wp_then, wp_thenR, wp_thenC, wp_thenB, List.getElem?_cons_zero, List.getElem?_cons_succ, List.set_cons_zero, List.set_cons_succ]
  have q10 := q9.trans pre10
  refine c_listM (q10.get hB2) (by rw [intsL_length]; omega) fun hp11 rb1 pre11 hb1 => ?_
  try simp only [wp_bind, wp_pure, wp_ld, wp_st, wp_add, wp_iadd, wp_sub, wp_lt, wp_gt, wp_le, wp_ge, wp_eqI, wp_neI, wp_tup, wp_asCons, wp_asNil, wp_then, wp_thenR, wp_thenC, wp_thenB, List.getElem?_cons_zero, List.getElem?_cons_succ, List.set_cons_zero, List.set_cons_succ]
  have q11 := q10.trans pre11
  try simp only [wp_bind, wp_pure, wp_ld, wp_st, wp_add, wp_iadd, wp_sub, wp_lt, wp_gt, wp_le, wp_ge, wp_eqI, wp_neI, wp_tup, wp_asCons, wp_asNil, wp_then, wp_thenR, wp_thenC, wp_thenB, List.getElem?_cons_zero, List.getElem?_cons_succ, List.set_cons_zero, List.set_cons_succ]
  refine wp_matcher (jv := .none) (jf := fun _ => false) (aj := true) (A := A) (B := B) (pre11.get ha1) hb1 (by omega) junk_none (fun x _ h => by cases h) (fun x hx h => by rw [popN x hx] at h; exact noise_eight (by simpa using h)) rfl fun hp12 rdf rjf rpf Df pre12 Mf => ?_
  dsimp only at pre12 Mf ⊢
  have q12 := q11.trans pre12
  generalize hp11.length = mf at *
  try simp only [wp_bind, wp_pure, wp_ld, wp_st, wp_add, wp_iadd, wp_sub, wp_lt, wp_gt, wp_le, wp_ge, wp_eqI, wp_neI, wp_tup, wp_asCons, wp_asNil, wp_then, wp_thenR, wp_thenC, wp_thenB, List.getElem?_cons_zero, List.getElem?_cons_succ, List.set_cons_zero, List.set_cons_succ]
  refine c_listM (((pre10.trans pre11).trans pre12).get hA) (by rw [intsL_length]; omega) fun hp13 ra2 pre13 ha2 => ?_
  try simp only [wp_bind, wp_pure, wp_ld, wp_st, wp_add, wp_iadd, wp_sub, wp_lt, wp_gt, wp_le, wp_ge, wp_eqI, wp_neI, wp_tup, wp_asCons, wp_asNil, wp_then, wp_thenR, wp_thenC, wp_thenB, List.getElem?_cons_zero, List.getElem?_cons_succ, List.set_cons_zero, List.set_cons_succ]
  have q13 := q12.trans pre13
  refine c_listM (q13.get hB2) (by rw [intsL_length]; omega) fun hp14 rb2 pre14 hb2 => ?_
  try simp only [wp_bind, wp_pure, wp_ld, wp_st, wp_add, wp_iadd, wp_sub, wp_lt, wp_gt, wp_le, wp_ge, wp_eqI, wp_neI, wp_tup, wp_asCons, wp_asNil, wp_then, wp_thenR, wp_thenC, wp_thenB, List.getElem?_cons_zero, List.getElem?_cons_succ, List.set_cons_zero, List.set_cons_succ]
  have q14 := q13.trans pre14
  try simp only [wp_bind, wp_pure, wp_ld, wp_st, wp_add, wp_iadd, wp_sub, wp_lt, wp_gt, wp_le, wp_ge, wp_eqI, wp_neI, wp_tup, wp_asCons, wp_asNil, wp_then, wp_thenR, wp_thenC, wp_thenB, List.getElem?_cons_zero, List.getElem?_cons_succ, List.set_cons_zero, List.set_cons_succ]
  refine wp_matcher (jv := .st (.ref 254)) (jf := fun x => decide (x ∈ noise)) (aj := false) (A := A) (B := B) (pre14.get ha2) hb2 (by omega) (junk_named H) (fun x _ h => noise_eight (by simpa using h)) (fun x hx h => by unfold popF at h; simp at h) rfl fun hp15 rdn rjn rpn Dn pre15 Mn => ?_
  dsimp only at pre15 Mn ⊢
  have q15 := q14.trans pre15
  generalize hp14.length = mn at *
  have Mf15 := Mf.pre ((pre13.trans pre14).trans pre15)
  have pA15 : Pre hp9 hp15 := ((((pre10.trans pre11).trans pre12).trans pre13).trans pre14).trans pre15
  have Jf : (eight.filter fun x => decide (x ∈ keysL B B.length) && (fun _ : Int => false) x) = [] := filter_false fun x _ => by simp
  have Jn : (eight.filter fun x => decide (x ∈ keysL B B.length) && (fun x => decide (x ∈ noise)) x) = [1, 2, 3] := filt_noise fun y _ => by
    by_cases hy : y ∈ noise
    · simp [hy, inN y hy]
    · simp [hy]
  have Pf : (eight.filter fun x => decide (x ∈ (keysL B B.length).filter fun x => !(fun _ : Int => false) x) && popF true B.length (posl B B.length) x) = [1, 2, 3] := filt_noise fun y _ => by
    by_cases hk : y ∈ keysL B B.length
    · rw [popN y hk]; simp [hk]
    · have hy : y ∉ noise := fun h => hk (inN y h)
      simp [hk, hy]
  have Pn : (eight.filter fun x => decide (x ∈ (keysL B B.length).filter fun x => !(fun x => decide (x ∈ noise)) x) && popF false B.length (posl B B.length) x) = [] := filter_false fun x _ => by unfold popF; simp
  obtain ⟨lf, hlf, lf1, lf2, lf7, lf8, lf9⟩ := Mf15.hS
  obtain ⟨ln, hln, ln1, ln2, ln7, ln8, ln9⟩ := Mn.hS
  have sjf := Mf15.hj
  have spf := Mf15.hpop
  have sjn := Mn.hj
  have spn := Mn.hpop
  rw [Jf] at sjf
  rw [Pf] at spf
  rw [Jn] at sjn
  rw [Pn] at spn
  simp only [wp_bind, wp_pure, wp_ld, wp_st, wp_add, wp_iadd, wp_sub, wp_lt, wp_gt, wp_le, wp_ge, wp_eqI, wp_neI, wp_tup, wp_asCons, wp_asNil, wp_then, wp_thenR, wp_thenC, wp_thenB, List.getElem?_cons_zero, List.getElem?_cons_succ, List.set_cons_zero, List.set_cons_succ, wp_attr hlf lf9 rfl]
  refine c_sortedS spf fun hp16 s1 pre16 hs1 => ?_
  try simp only [wp_bind, wp_pure, wp_ld, wp_st, wp_add, wp_iadd, wp_sub, wp_lt, wp_gt, wp_le, wp_ge, wp_eqI, wp_neI, wp_tup, wp_asCons, wp_asNil, wp_then, wp_thenR, wp_thenC, wp_thenB, List.getElem?_cons_zero, List.getElem?_cons_succ, List.set_cons_zero, List.set_cons_succ]
  try simp only [wp_bind, wp_pure, wp_ld, wp_st, wp_add, wp_iadd, wp_sub, wp_lt, wp_gt, wp_le, wp_ge, wp_eqI, wp_neI, wp_tup, wp_asCons, wp_asNil, wp_then, wp_thenR, wp_thenC, wp_thenB, List.getElem?_cons_zero, List.getElem?_cons_succ, List.set_cons_zero, List.set_cons_succ]
  refine c_mk (by simp) fun hp17 s2 pre17 hs2 => ?_
  try simp only [wp_bind, wp_pure, wp_ld, wp_st, wp_add, wp_iadd, wp_sub, wp_lt, wp_gt, wp_le, wp_ge, wp_eqI, wp_neI, wp_tup, wp_asCons, wp_asNil, wp_then, wp_thenR, wp_thenC, wp_thenB, List.getElem?_cons_zero, List.getElem?_cons_succ, List.set_cons_zero, List.set_cons_succ]
  have hs2' : hp17[s2]? = some (.list (intsL [1, 2, 3])) := hs2
  have t17 := pre16.trans pre17
  simp only [wp_bind, wp_pure, wp_ld, wp_st, wp_add, wp_iadd, wp_sub, wp_lt, wp_gt, wp_le, wp_ge, wp_eqI, wp_neI, wp_tup, wp_asCons, wp_asNil, wp_then, wp_thenR, wp_thenC, wp_thenB, List.getElem?_cons_zero, List.getElem?_cons_succ, List.set_cons_zero, List.set_cons_succ, wp_neL (pre17.get hs1) hs2', wp_ite, Bool.false_eq_true, if_false, wp_attr (t17.get hlf) lf8 rfl]
  refine c_sortedS (t17.get sjf) fun hp18 s3 pre18 hs3 => ?_
  try simp only [wp_bind, wp_pure, wp_ld, wp_st, wp_add, wp_iadd, wp_sub, wp_lt, wp_gt, wp_le, wp_ge, wp_eqI, wp_neI, wp_tup, wp_asCons, wp_asNil, wp_then, wp_thenR, wp_thenC, wp_thenB, List.getElem?_cons_zero, List.getElem?_cons_succ, List.set_cons_zero, List.set_cons_succ]
  try simp only [wp_bind, wp_pure, wp_ld, wp_st, wp_add, wp_iadd, wp_sub, wp_lt, wp_gt, wp_le, wp_ge, wp_eqI, wp_neI, wp_tup, wp_asCons, wp_asNil, wp_then, wp_thenR, wp_thenC, wp_thenB, List.getElem?_cons_zero, List.getElem?_cons_succ, List.set_cons_zero, List.set_cons_succ]
  refine c_mk (by simp) fun hp19 s4 pre19 hs4 => ?_
  try simp only [wp_bind, wp_pure, wp_ld, wp_st, wp_add, wp_iadd, wp_sub, wp_lt, wp_gt, wp_le, wp_ge, wp_eqI, wp_neI, wp_tup, wp_asCons, wp_asNil, wp_then, wp_thenR, wp_thenC, wp_thenB, List.getElem?_cons_zero, List.getElem?_cons_succ, List.set_cons_zero, List.set_cons_succ]
  have hs4' : hp19[s4]? = some (.list (intsL [])) := hs4
  have t19 := (t17.trans pre18).trans pre19
  simp only [wp_bind, wp_pure, wp_ld, wp_st, wp_add, wp_iadd, wp_sub, wp_lt, wp_gt, wp_le, wp_ge, wp_eqI, wp_neI, wp_tup, wp_asCons, wp_asNil, wp_then, wp_thenR, wp_thenC, wp_thenB, List.getElem?_cons_zero, List.getElem?_cons_succ, List.set_cons_zero, List.set_cons_succ, wp_neL (pre19.get hs3) hs4', wp_ite, Bool.false_eq_true, if_false, wp_attr (t19.get hln) ln8 rfl]
  refine c_sortedS (t19.get sjn) fun hp20 s5 pre20 hs5 => ?_
  try simp only [wp_bind, wp_pure, wp_ld, wp_st, wp_add, wp_iadd, wp_sub, wp_lt, wp_gt, wp_le, wp_ge, wp_eqI, wp_neI, wp_tup, wp_asCons, wp_asNil, wp_then, wp_thenR, wp_thenC, wp_thenB, List.getElem?_cons_zero, List.getElem?_cons_succ, List.set_cons_zero, List.set_cons_succ]
  try simp only [wp_bind, wp_pure, wp_ld, wp_st, wp_add, wp_iadd, wp_sub, wp_lt, wp_gt, wp_le, wp_ge, wp_eqI, wp_neI, wp_tup, wp_asCons, wp_asNil, wp_then, wp_thenR, wp_thenC, wp_thenB, List.getElem?_cons_zero, List.getElem?_cons_succ, List.set_cons_zero, List.set_cons_succ]
  refine c_mk (by simp) fun hp21 s6 pre21 hs6 => ?_
  try simp only [wp_bind, wp_pure, wp_ld, wp_st, wp_add, wp_iadd, wp_sub, wp_lt, wp_gt, wp_le, wp_ge, wp_eqI, wp_neI, wp_tup, wp_asCons, wp_asNil, wp_then, wp_thenR, wp_thenC, wp_thenB, List.getElem?_cons_zero, List.getElem?_cons_succ, List.set_cons_zero, List.set_cons_succ]
  have hs6' : hp21[s6]? = some (.list (intsL [1, 2, 3])) := hs6
  have t21 := (t19.trans pre20).trans pre21
  simp only [wp_bind, wp_pure, wp_ld, wp_st, wp_add, wp_iadd, wp_sub, wp_lt, wp_gt, wp_le, wp_ge, wp_eqI, wp_neI, wp_tup, wp_asCons, wp_asNil, wp_then, wp_thenR, wp_thenC, wp_thenB, List.getElem?_cons_zero, List.getElem?_cons_succ, List.set_cons_zero, List.set_cons_succ, wp_neL (pre21.get hs5) hs6', wp_ite, Bool.false_eq_true, if_false, wp_attr (t21.get hln) ln9 rfl]
  refine c_sortedS (t21.get spn) fun hp22 s7 pre22 hs7 => ?_
  try simp only [wp_bind, wp_pure, wp_ld, wp_st, wp_add, wp_iadd, wp_sub, wp_lt, wp_gt, wp_le, wp_ge, wp_eqI, wp_neI, wp_tup, wp_asCons, wp_asNil, wp_then, wp_thenR, wp_thenC, wp_thenB, List.getElem?_cons_zero, List.getElem?_cons_succ, List.set_cons_zero, List.set_cons_succ]
  try simp only [wp_bind, wp_pure, wp_ld, wp_st, wp_add, wp_iadd, wp_sub, wp_lt, wp_gt, wp_le, wp_ge, wp_eqI, wp_neI, wp_tup, wp_asCons, wp_asNil, wp_then, wp_thenR, wp_thenC, wp_thenB, List.getElem?_cons_zero, List.getElem?_cons_succ, List.set_cons_zero, List.set_cons_succ]
  refine c_mk (by simp) fun hp23 s8 pre23 hs8 => ?_
  try simp only [wp_bind, wp_pure, wp_ld, wp_st, wp_add, wp_iadd, wp_sub, wp_lt, wp_gt, wp_le, wp_ge, wp_eqI, wp_neI, wp_tup, wp_asCons, wp_asNil, wp_then, wp_thenR, wp_thenC, wp_thenB, List.getElem?_cons_zero, List.getElem?_cons_succ, List.set_cons_zero, List.set_cons_succ]
  have hs8' : hp23[s8]? = some (.list (intsL [])) := hs8
  have t23 := (t21.trans pre22).trans pre23
  have Mf23 := Mf15.pre t23
  have Mn23 := Mn.pre t23
  have hkeys : Df.map (·.1) = Dn.map (·.1) := by
    rw [Mf23.keys, Mn23.keys, List.filter_filter, List.filter_filter]
    refine List.filter_congr fun x hx => ?_
    rw [popN x hx]
    unfold popF
    simp
  have hA23 : hp23[rf]? = some (.list (intsL A)) := (pA15.trans t23).get hA
  have hB23 : hp23[r2]? = some (.list (intsL B)) := (q15.trans t23).get hB2
  have hD23 : hp23[rp]? = some (.dict Dp) := (q15.trans t23).get hDp
  have Ff : FH hp23 mf ra1 rb1 rdf rjf A B (fun x => decide (x ∉ noise)) [] Df := by
    have := Mf23.FH (q := fun x => decide (x ∉ noise)) (by omega) (by omega) fun x hx => by rw [popN x hx]; simp
    rw [Jf] at this; exact this
  have Fn : FH hp23 mn ra2 rb2 rdn rjn A B (fun x => decide (x ∉ noise)) [1, 2, 3] Dn := by
    have := Mn23.FH (q := fun x => decide (x ∉ noise)) (by omega) (by omega) fun x hx => by unfold popF; simp
    rw [Jn] at this; exact this
  simp only [wp_bind, wp_pure, wp_ld, wp_st, wp_add, wp_iadd, wp_sub, wp_lt, wp_gt, wp_le, wp_ge, wp_eqI, wp_neI, wp_tup, wp_asCons, wp_asNil, wp_then, wp_thenR, wp_thenC, wp_thenB, List.getElem?_cons_zero, List.getElem?_cons_succ, List.set_cons_zero, List.set_cons_succ, wp_neL (pre23.get hs7) hs8', wp_ite, Bool.false_eq_true, if_false, wp_attr (t23.get hlf) lf7 rfl, wp_attr (t23.get hln) ln7 rfl, wp_neD Mf23.hd Mn23.hd hkeys Mf23.mem Mn23.mem, wp_lenL hA23 (show (intsL A).length ≤ 1000000 by rw [intsL_length]; omega), intsL_length]
  refine ⟨by simp, ?_⟩
  refine c_mk (by simp) fun hp24 w0 pre24 hw0 => ?_
  try simp only [wp_bind, wp_pure, wp_ld, wp_st, wp_add, wp_iadd, wp_sub, wp_lt, wp_gt, wp_le, wp_ge, wp_eqI, wp_neI, wp_tup, wp_asCons, wp_asNil, wp_then, wp_thenR, wp_thenC, wp_thenB, List.getElem?_cons_zero, List.getElem?_cons_succ, List.set_cons_zero, List.set_cons_succ]
  try simp only [wp_bind, wp_pure, wp_ld, wp_st, wp_add, wp_iadd, wp_sub, wp_lt, wp_gt, wp_le, wp_ge, wp_eqI, wp_neI, wp_tup, wp_asCons, wp_asNil, wp_then, wp_thenR, wp_thenC, wp_thenB, List.getElem?_cons_zero, List.getElem?_cons_succ, List.set_cons_zero, List.set_cons_succ]
  refine c_sliceS (by decide) (by decide) fun hp25 ry1 pre25 hy1 => ?_
  try simp only [wp_bind, wp_pure, wp_ld, wp_st, wp_add, wp_iadd, wp_sub, wp_lt, wp_gt, wp_le, wp_ge, wp_eqI, wp_neI, wp_tup, wp_asCons, wp_asNil, wp_then, wp_thenR, wp_thenC, wp_thenB, List.getElem?_cons_zero, List.getElem?_cons_succ, List.set_cons_zero, List.set_cons_succ]
  refine c_listM hy1 (by rw [intsL_length, List.length_take]; omega) fun hp26 ry2 pre26 hy2 => ?_
  try simp only [wp_bind, wp_pure, wp_ld, wp_st, wp_add, wp_iadd, wp_sub, wp_lt, wp_gt, wp_le, wp_ge, wp_eqI, wp_neI, wp_tup, wp_asCons, wp_asNil, wp_then, wp_thenR, wp_thenC, wp_thenB, List.getElem?_cons_zero, List.getElem?_cons_succ, List.set_cons_zero, List.set_cons_succ]
  try simp only [wp_bind, wp_pure, wp_ld, wp_st, wp_add, wp_iadd, wp_sub, wp_lt, wp_gt, wp_le, wp_ge, wp_eqI, wp_neI, wp_tup, wp_asCons, wp_asNil, wp_then, wp_thenR, wp_thenC, wp_thenB, List.getElem?_cons_zero, List.getElem?_cons_succ, List.set_cons_zero, List.set_cons_succ]
  refine c_mk (by simp) fun hp27 ry3 pre27 hy3 => ?_
  try simp only [wp_bind, wp_pure, wp_ld, wp_st, wp_add, wp_iadd, wp_sub, wp_lt, wp_gt, wp_le, wp_ge, wp_eqI, wp_neI, wp_tup, wp_asCons, wp_asNil, wp_then, wp_thenR, wp_thenC, wp_thenB, List.getElem?_cons_zero, List.getElem?_cons_succ, List.set_cons_zero, List.set_cons_succ]
  have hy3' : hp27[ry3]? = some (.list (intsL [5, 77, 12345])) := hy3
  try simp only [wp_bind, wp_pure, wp_ld, wp_st, wp_add, wp_iadd, wp_sub, wp_lt, wp_gt, wp_le, wp_ge, wp_eqI, wp_neI, wp_tup, wp_asCons, wp_asNil, wp_then, wp_thenR, wp_thenC, wp_thenB, List.getElem?_cons_zero, List.getElem?_cons_succ, List.set_cons_zero, List.set_cons_succ]
  refine c_sliceS (by decide) (by decide) fun hp28 ry4 pre28 hy4 => ?_
  try simp only [wp_bind, wp_pure, wp_ld, wp_st, wp_add, wp_iadd, wp_sub, wp_lt, wp_gt, wp_le, wp_ge, wp_eqI, wp_neI, wp_tup, wp_asCons, wp_asNil, wp_then, wp_thenR, wp_thenC, wp_thenB, List.getElem?_cons_zero, List.getElem?_cons_succ, List.set_cons_zero, List.set_cons_succ]
  simp only [wp_lenL hy4 (show (intsL _).length ≤ 1000000 by rw [intsL_length, List.length_take]; omega)]
  refine c_sliceN (pre28.get hy3') (by simp [hlim]) (by omega) fun hp29 ry5 pre29 hy5 => ?_
  try simp only [wp_bind, wp_pure, wp_ld, wp_st, wp_add, wp_iadd, wp_sub, wp_lt, wp_gt, wp_le, wp_ge, wp_eqI, wp_neI, wp_tup, wp_asCons, wp_asNil, wp_then, wp_thenR, wp_thenC, wp_thenB, List.getElem?_cons_zero, List.getElem?_cons_succ, List.set_cons_zero, List.set_cons_succ]
  refine c_addL (((pre27.trans pre28).trans pre29).get hy2) hy5 (by rw [intsL_length, intsL_length, List.length_take, List.length_take]; simp; omega) fun hp30 ry pre30 hy => ?_
  try simp only [wp_bind, wp_pure, wp_ld, wp_st, wp_add, wp_iadd, wp_sub, wp_lt, wp_gt, wp_le, wp_ge, wp_eqI, wp_neI, wp_tup, wp_asCons, wp_asNil, wp_then, wp_thenR, wp_thenC, wp_thenB, List.getElem?_cons_zero, List.getElem?_cons_succ, List.set_cons_zero, List.set_cons_succ]
  rw [← intsL_app] at hy
  have t30 : Pre hp23 hp30 := ((((((pre24.trans pre25).trans pre26).trans pre27).trans pre28).trans pre29).trans pre30)
  have t30' : Pre hp24 hp30 := (((((pre25.trans pre26).trans pre27).trans pre28).trans pre29).trans pre30)
  simp only [wp_iterL hy]
  refine wp_windows (m := A.length) (n := n) (W := [(0, (A.length : Int), 0, (n : Int))]) hy (t30'.get hw0) (fun w hw => by
    have : w = (0, (A.length : Int), 0, (n : Int)) := by simpa using hw
    subst this; unfold OkW; dsimp only; omega) (by simp) (by rw [List.length_append, List.length_take, List.length_take]; simp; omega) (by omega) (by omega) (by omega) fun hp31 W rw' o12 o13 o14 o15 o16 pre31 hW oW lW => ?_
  simp only [wp_bind, wp_pure, wp_ld, wp_st, wp_add, wp_iadd, wp_sub, wp_lt, wp_gt, wp_le, wp_ge, wp_eqI, wp_neI, wp_tup, wp_asCons, wp_asNil, wp_then, wp_thenR, wp_thenC, wp_thenB, List.getElem?_cons_zero, List.getElem?_cons_succ, List.set_cons_zero, List.set_cons_succ, wp_iterL hW]
  have t31 := t30.trans pre31
  refine wp_for_list (fun i σ' => ∃ hp' o17 o18 o19 o20, σ' = ⟨hp', [some (.st (.ref sa)), some (.int n), some (.ref r2), some (.ref rp), o4, some (.ref rf), o6, o7, some (.ref mf), some (.ref mn), some (.int A.length), some (.ref rw'), o12, o13, o14, o15, o16, o17, o18, o19, o20]⟩ ∧ Pre hp31 hp') rw' (W.map qAV) ?_ ?_ ?_ (W.map qAV).length 0 fuel _ (by simp) (by rw [List.length_map, hfu]; omega)
    ⟨hp31, _, _, _, _, rfl, Pre.refl _⟩
  · rintro i σ' ⟨hp', _, _, _, _, rfl, pre⟩
    exact pre.get hW
  · rintro i hi σ' ⟨hp', o17, o18, o19, o20, rfl, pre⟩
    have hi' : i < W.length := by rwa [List.length_map] at hi
    have hg : (W.map qAV)[i] = qAV W[i] := List.getElem_map qAV
    rw [hg, wp_st]
    simp only [List.set_cons_zero, List.set_cons_succ]
    have tt := t31.trans pre
    have ow := oW _ (List.getElem_mem hi')
    rw [← lB] at ow
    exact wp_one (n := n) H (tt.get hA23) (tt.get hB23) (tt.get hD23) PR (Ff.pre tt) (Fn.pre tt) ow fun hp'' o18 o19 o20 pre' => .inl ⟨.inl rfl, hp'', _, _, _, _, rfl, pre.trans pre'⟩
  · rintro σ' ⟨hp', o17, o18, o19, o20, rfl, pre⟩
    have tt := t31.trans pre
    have Ff' := Ff.pre tt
    obtain ⟨l1, hl1, _⟩ := Ff'.hS
    simp only [wp_bind, wp_pure, wp_ld, wp_st, wp_add, wp_iadd, wp_sub, wp_lt, wp_gt, wp_le, wp_ge, wp_eqI, wp_neI, wp_tup, wp_asCons, wp_asNil, wp_then, wp_thenR, wp_thenC, wp_thenB, List.getElem?_cons_zero, List.getElem?_cons_succ, List.set_cons_zero, List.set_cons_succ, wp_instM hl1]
    refine wp_flm0 H (σ := ⟨hp', _⟩) Ff' fun i j k t1 t2 t3 t4 hp32 T pre32 => ?_
    dsimp only at pre32 ⊢
    simp only [wp_bind, wp_pure, wp_ld, wp_st, wp_add, wp_iadd, wp_sub, wp_lt, wp_gt, wp_le, wp_ge, wp_eqI, wp_neI, wp_tup, wp_asCons, wp_asNil, wp_then, wp_thenR, wp_thenC, wp_thenB, List.getElem?_cons_zero, List.getElem?_cons_succ, List.set_cons_zero, List.set_cons_succ, wp_plain, wp_instM (pre32.get hl1)]
    rw [← lB]
    refine wp_flm H (σ := ⟨hp32, _⟩) (Ff'.pre pre32) (by omega) (by omega) (by omega) (by omega) (by omega) (by omega) fun i' j' k' t1' t2' t3' t4' hp33 T' pre33 => ?_
    obtain ⟨ei, ej, ek⟩ := Heart.uniq T.heart T'.heart
    subst ei ej ek
    have u1 := T.g1.uniq T'.g1
    have u2 := T.g2.uniq T'.g2
    subst u1 u2
    have u3 := T.g3.uniq T'.g3
    have u4 := T.g4.uniq T'.g4
    subst u3 u4
    simp only [wp_bind, wp_pure, wp_ld, wp_st, wp_add, wp_iadd, wp_sub, wp_lt, wp_gt, wp_le, wp_ge, wp_eqI, wp_neI, wp_tup, wp_asCons, wp_asNil, wp_then, wp_thenR, wp_thenC, wp_thenB, List.getElem?_cons_zero, List.getElem?_cons_succ, List.set_cons_zero, List.set_cons_succ, wp_plain, wp_eq3 (show _ ∧ _ ∧ _ from ⟨rfl, rfl, rfl⟩), retOf]
end
theorem law01 : PySem.Challenge.rw_fd5001_01.Holds := ends fun C sa ns H hns => by
  obtain ⟨a, σ', e, rfl⟩ := law_run (sa := sa) H hns
  exact ⟨σ', e⟩
end Mine

theorem PySem.Challenge.cw_fd5001_01_holds : PySem.Challenge.rw_fd5001_01.Holds :=
  Mine.law01
