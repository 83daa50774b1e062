import PyProof.Rows.All
import Wide.All
import OpenK.AllK
import Wide.FinOn
import Lean
import PySem.Challenge.RW_st0006_01
open PySem PySem.W PyProof.Rows
set_option Elab.async false
set_option maxRecDepth 100000
set_option linter.all false

namespace Mine
section
local macro_rules | `(tactic| o_head $_) => `(tactic| contradiction)
/-- this run does nothing but write out the heap's part: hd.heap_1 -/
theorem hd (no : False) : PySem.Challenge.rw_st0006_01.row.Holds := by
  w_on
  k_head
end
/-- the text without its three plain assignments -/
noncomputable def view : Program := PySem.W.view PySem.Challenge.pw_st0006_01 [0, 2, 3, 4, 6, 8, 9, 10, 11, 12, 13, 14, 15, 16, 17, 18]
noncomputable def spots : List Addr := [2, 3, 15, 17, 18, 20, 21, 29, 31, 32, 34, 35, 36, 38, 39, 41, 42, 43, 44, 45, 46, 47, 50, 52, 53, 55, 56, 57, 59, 60, 62, 63, 71, 73, 74, 76, 77, 78, 80, 81, 83, 84, 85, 87, 88, 90, 91, 92, 94, 95, 97, 98, 99, 100, 101, 102, 103, 106, 109, 110, 111, 114, 115, 116, 119, 120, 121, 124, 125, 126, 128, 129, 131, 132, 133, 136, 137, 138, 140, 141, 143, 144, 145, 147, 148, 150, 151, 152, 155, 156, 157, 160, 161, 162, 165, 166]
noncomputable def hook : Hook := kHook hd.heap_1 spots (fun _ => by kernel_rfl)
noncomputable def goodTop (s : Shared) : Bool := xlAt view [] s && recOk (RowW.records (OpenRow.toRowW PySem.Challenge.rw_st0006_01.row)) s
/-- the top comes through, and leaves what the view says -/
theorem left : LeftO PySem.Challenge.rw_st0006_01.row.prog view [] goodTop (Hook.obs hook) (Hook.val hook) 2138 := by
  intro w
  unfold openEnds topFrom
  rw [PySem.W.Fast.te14082659384304107361, PySem.W.Fast.te14364793385576792824, PySem.W.Fast.te4187177175401517315]
  kernel_rfl
/-- the law is well said -/
theorem wellSaid : PySem.W.OpenLaw.wellSaid PySem.Challenge.rw_st0006_01 = true := by
  rw [PySem.W.Fast.te9446332074065402090]
  kernel_rfl
end Mine

open PySem.Calls
set_option maxHeartbeats 4000000
namespace Mine

theorem slot_seti : Slot "set_iterator" "__next__" "set_iterator.__next__" :=
  .of (owner := "set_iterator") (n := "__next__") (by rw [typeLookup_type, builtinLookup_eq_fast]; kernel_rfl) (by decide +kernel) (by decide +kernel) (by decide +kernel)
    (by first | exact .inl (by decide +kernel) | exact .inr (by decide +kernel)) (by rw [isSubtype_type]; kernel_rfl)
theorem entry_seti : entryFor table "set_iterator.__next__" = some Builtin.«set_iterator.__next__» := entryFor_of_tree (by kernel_rfl)
theorem entry_setiter : entryFor table "set.__iter__" = some Builtin.«frozenset.__iter__» := entryFor_alias (id' := "frozenset.__iter__") (by kernel_rfl) rfl (by decide +kernel) (by kernel_rfl)

/-- the three places -/
noncomputable def slotEls (o0 o1 o6 : Option Tok) : List (Nat × Int × Value) :=
  (o0.map fun t => (0, (0 : Int), Value.int 0 t)).toList ++ (o1.map fun t => (1, (1 : Int), Value.int 1 t)).toList ++ (o6.map fun t => (6, (-2 : Int), Value.int (-1) t)).toList
noncomputable def setEls (o0 o1 o6 : Option Tok) : Array (Int × Value) := ((slotEls o0 o1 o6).map (·.2)).toArray
noncomputable def setPl (o0 o1 o6 : Option Tok) : Array Nat := ((slotEls o0 o1 o6).map (·.1)).toArray
noncomputable def setTab (led : Bool) (o0 o1 o6 : Option Tok) : SetTable := { mask := 7, place := setPl o0 o1 o6, dummies := #[], finger := 0, led := led, moves := 0, plain := true }
noncomputable def setO (led : Bool) (ep : Nat) (o0 o1 o6 : Option Tok) : Obj := { cls := .type "set", dict := none, data := .set (setEls o0 o1 o6) ep (setTab led o0 o1 o6), slots := #[] }

theorem setFits (led : Bool) (o0 o1 o6 : Option Tok) : (setTab led o0 o1 o6).fits (setEls o0 o1 o6).size = true := by
  cases o0 <;> cases o1 <;> cases o6 <;> rfl
theorem setRoom (led : Bool) (o0 o1 o6 : Option Tok) : (setTab led o0 o1 o6).tooFull = false := by
  cases o0 <;> cases o1 <;> cases o6 <;> rfl

noncomputable def tabB (led b0 b1 b6 : Bool) : SetTable := { mask := 7, place := ((if b0 then [0] else []) ++ (if b1 then [1] else []) ++ (if b6 then [6] else [])).toArray, dummies := #[], finger := 0, led := led, moves := 0, plain := true }
theorem setTab_eq (led : Bool) (o0 o1 o6 : Option Tok) : setTab led o0 o1 o6 = tabB led o0.isSome o1.isSome o6.isSome := by
  cases o0 <;> cases o1 <;> cases o6 <;> rfl
theorem free0 : ∀ led b1 b6 : Bool, (tabB led false b1 b6).freeSlot 0 = some (0, false) := by decide +kernel
theorem free1 : ∀ led b0 b6 : Bool, (tabB led b0 false b6).freeSlot 1 = some (1, false) := by decide +kernel
theorem free6 : ∀ led b0 b1 : Bool, (tabB led b0 b1 false).freeSlot (-2) = some (6, false) := by decide +kernel
noncomputable def bn (b : Bool) : Nat := if b then 1 else 0
theorem put0 : ∀ led b1 b6 : Bool, (tabB led false b1 b6).put 0 = (tabB led true b1 b6, 0) := by decide +kernel
theorem put1 : ∀ led b0 b6 : Bool, (tabB led b0 false b6).put 1 = (tabB led b0 true b6, bn b0) := by decide +kernel
theorem put6 : ∀ led b0 b1 : Bool, (tabB led b0 b1 false).put 6 = (tabB led b0 b1 true, bn b0 + bn b1) := by decide +kernel
theorem ins0 (o1 o6 : Option Tok) (t : Tok) : SetTable.insertAt (setEls none o1 o6) 0 (0, .int 0 t) = setEls (some t) o1 o6 := by
  cases o1 <;> cases o6 <;> simp [SetTable.insertAt, setEls, slotEls]
theorem ins1 (o0 o6 : Option Tok) (t : Tok) : SetTable.insertAt (setEls o0 none o6) (bn o0.isSome) (1, .int 1 t) = setEls o0 (some t) o6 := by
  cases o0 <;> cases o6 <;> simp [SetTable.insertAt, setEls, slotEls, bn]
theorem ins6 (o0 o1 : Option Tok) (t : Tok) : SetTable.insertAt (setEls o0 o1 none) (bn o0.isSome + bn o1.isSome) (-2, .int (-1) t) = setEls o0 o1 (some t) := by
  cases o0 <;> cases o1 <;> simp [SetTable.insertAt, setEls, slotEls, bn]
theorem lay_of {t : SetTable} {es : Array (Int × Value)} {h : Int} {x : Value} {slot p : Nat} {t' : SetTable} {es' : Array (Int × Value)} (hf : t.freeSlot h = some (slot, false)) (hp : t.put slot = (t', p)) (hi : SetTable.insertAt es p (h, x) = es') (hfit : t'.fits es'.size = true) : layNew t es h x = (es', t', false, false) := by
  unfold layNew SetTable.orStandIn
  rw [hf]
  dsimp only
  rw [hp]
  dsimp only
  rw [hi, hfit]
  rfl
theorem lay0 (led : Bool) (o1 o6 : Option Tok) (t : Tok) : layNew (setTab led none o1 o6) (setEls none o1 o6) 0 (.int 0 t) = (setEls (some t) o1 o6, setTab led (some t) o1 o6, false, false) :=
  lay_of (by rw [setTab_eq]; exact free0 _ _ _) (by rw [setTab_eq, setTab_eq]; exact put0 _ _ _) (ins0 _ _ _) (setFits _ _ _ _)
theorem lay1 (led : Bool) (o0 o6 : Option Tok) (t : Tok) : layNew (setTab led o0 none o6) (setEls o0 none o6) 1 (.int 1 t) = (setEls o0 (some t) o6, setTab led o0 (some t) o6, false, false) :=
  lay_of (by rw [setTab_eq]; exact free1 _ _ _) (by rw [setTab_eq, setTab_eq]; exact put1 _ _ _) (ins1 _ _ _) (setFits _ _ _ _)
theorem lay6 (led : Bool) (o0 o1 : Option Tok) (t : Tok) : layNew (setTab led o0 o1 none) (setEls o0 o1 none) (-2) (.int (-1) t) = (setEls o0 o1 (some t), setTab led o0 o1 (some t), false, false) :=
  lay_of (by rw [setTab_eq]; exact free6 _ _ _) (by rw [setTab_eq, setTab_eq]; exact put6 _ _ _) (ins6 _ _ _) (setFits _ _ _ _)
/-- where the next one stands -/
theorem below0 : ∀ led b0 b1 b6 : Bool, ∀ i < ((tabB led b0 b1 b6).place).size, SetTable.below (tabB led b0 b1 b6).place ((tabB led b0 b1 b6).place.getD i 0 + 1) = i + 1 := by decide +kernel
theorem belowZ : ∀ led b0 b1 b6 : Bool, SetTable.below (tabB led b0 b1 b6).place 0 = 0 := by decide +kernel
end Mine

namespace Mine

section
variable {prog : Program} {w : World} {A : Around} {E : Value → Shared → Prop} {s : Shared}
theorem add_core {a : Addr} {o : Obj} {es es' : Array (Int × Value)} {ep : Nat} {t t' : SetTable} {k : Int} {tk : Tok} {Q : Bool → Shared → Prop}
    (ho : s.heap.get? a = some o) (hd : o.data = .set es ep t) (hel : ElemsOf (intKind prog w) es.toList) (hb : es.size < scanBound) (hf : t.fits es.size = true)
    (hyes : ∀ j, es.toList.findIdx? (fun e => (intKind prog w).is k e.2) = some j → Q false s)
    (hno : es.toList.findIdx? (fun e => (intKind prog w).is k e.2) = none → layNew t es ((intKind prog w).hash k) (.int k tk) = (es', t', false, false) ∧ t'.plain = true ∧ t'.tooFull = false ∧ es'.size ≤ sizeLine ∧ Q true { s with heap := s.heap.update a (Obj.putSet es' t') }) :
    wpAny (model prog w) A (setAddHashed a (.int k tk) ((intKind prog w).hash k)) Q E s := by
  unfold setAddHashed setAddHashedIn
  refine wpAny_holding (wpAny_bind (wpAny_setState_of ho hd hf ?_))
  dsimp only
  rw [byScan_of (x := .int k tk) rfl hb hel]
  simp only [↓reduceIte]
  unfold setAddByScan
  refine wpAny_bind ?_
  refine wpAny_bind (wpAny_rule ?_)
  refine wpAny_bind (wpAny_setScan_of (knd := intKind prog w) (intKind_is _ _ _ _) ho hd hf hel ?_)
  cases hr : List.findIdx? (fun e => (intKind prog w).is k e.2) es.toList with
  | some j =>
    dsimp only
    exact wpAny_pure (wpAny_pure (hyes j hr))
  | none =>
    obtain ⟨hL, hpl, htf, hsz, hQ⟩ := hno hr
    dsimp only
    rw [hL]
    dsimp only
    refine wpAny_bind (wpAny_pure ?_)
    rw [hpl]
    simp only [↓reduceIte]
    refine wpAny_bind ?_
    rw [hashByValue_scannable 8 (x := .int k tk) rfl]
    refine wpAny_pure ?_
    simp only [plainKind, ↓reduceIte]
    refine wpAny_bind (wpAny_storeSet_of ho hd ?_ hsz)
    rw [htf]
    simp only [Bool.not_false, Bool.and_false, Bool.false_eq_true, ↓reduceIte]
    exact wpAny_pure (wpAny_pure hQ)

theorem els_of (o0 o1 o6 : Option Tok) : ElemsOf (intKind prog w) (setEls o0 o1 o6).toList := by
  intro e he
  have he' : e ∈ (slotEls o0 o1 o6).map (·.2) := he
  obtain ⟨p, hp, rfl⟩ := List.mem_map.mp he'
  unfold slotEls at hp
  rcases List.mem_append.mp hp with hp | hp
  · rcases List.mem_append.mp hp with hp | hp
    · cases o0 with
      | none => cases hp
      | some t =>
        rw [show p = _ from List.mem_singleton.mp hp]
        exact ⟨⟨0, intKind_is _ _ _ _, rfl⟩, rfl⟩
    · cases o1 with
      | none => cases hp
      | some t =>
        rw [show p = _ from List.mem_singleton.mp hp]
        exact ⟨⟨1, intKind_is _ _ _ _, rfl⟩, rfl⟩
  · cases o6 with
    | none => cases hp
    | some t =>
      rw [show p = _ from List.mem_singleton.mp hp]
      exact ⟨⟨-1, intKind_is _ _ _ _, rfl⟩, rfl⟩
theorem put_setO {led : Bool} {ep : Nat} {o0 o1 o6 o0' o1' o6' : Option Tok} : Obj.putSet (setEls o0' o1' o6') (setTab led o0' o1' o6') (setO led ep o0 o1 o6) = setO led (ep + 1) o0' o1' o6' := rfl
theorem upd_setO {h : Heap} {a : Addr} {led : Bool} {ep : Nat} {o0 o1 o6 o0' o1' o6' : Option Tok} (ho : h.get? a = some (setO led ep o0 o1 o6)) : (h.update a (Obj.putSet (setEls o0' o1' o6') (setTab led o0' o1' o6'))).get? a = some (setO led (ep + 1) o0' o1' o6') :=
  (Heap.get?_update_self (Obj.putSet (setEls o0' o1' o6') (setTab led o0' o1' o6')) ho (by rfl)).trans (by rw [put_setO])
theorem els_small (o0 o1 o6 : Option Tok) : (setEls o0 o1 o6).size < scanBound := by cases o0 <;> cases o1 <;> cases o6 <;> simp [setEls, slotEls, scanBound]
theorem els_fit (o0 o1 o6 : Option Tok) : (setEls o0 o1 o6).size ≤ sizeLine := fits_of_scanBound (els_small o0 o1 o6)
theorem find_iff (o0 o1 o6 : Option Tok) (k : Int) : ((setEls o0 o1 o6).toList.findIdx? (fun e => (intKind prog w).is k e.2)).isSome = ((o0.isSome && k == 0) || (o1.isSome && k == 1) || (o6.isSome && k == -1)) := by
  have hi : ∀ (i : Int) (t : Tok), (intKind prog w).is k (.int i t) = (k == i) := fun i t => by
    rw [KeyKind.is_eq_decide (intKind_is prog w i t) k]; rfl
  rw [List.findIdx?_isSome]
  show ((slotEls o0 o1 o6).map (·.2)).any _ = _
  unfold slotEls
  cases o0 <;> cases o1 <;> cases o6 <;> simp [hi, Bool.or_assoc]

theorem same3 : ∀ a b c x y z : Bool, ((x && !y && !z) || (!x && y && !z) || (!x && !y && z)) = true → true = ((a && x) || (b && y) || (c && z)) → a = (a || x) ∧ b = (b || y) ∧ c = (c || z) := by decide +kernel
theorem one3 {k : Int} (hk : k = -1 ∨ k = 0 ∨ k = 1) : ((k == 0 && !(k == 1) && !(k == -1)) || (!(k == 0) && k == 1 && !(k == -1)) || (!(k == 0) && !(k == 1) && k == -1)) = true := by
  rcases hk with rfl | rfl | rfl <;> rfl
theorem out0 : ∀ a b c : Bool, false = ((a && true) || (b && false) || (c && false)) → a = false := by decide +kernel
theorem out1 : ∀ a b c : Bool, false = ((a && false) || (b && true) || (c && false)) → b = false := by decide +kernel
theorem out6 : ∀ a b c : Bool, false = ((a && false) || (b && false) || (c && true)) → c = false := by decide +kernel
theorem none_of {o : Option Tok} (h : o.isSome = false) : o = none := Option.isSome_eq_false_iff.mp h |> Option.isNone_iff_eq_none.mp
theorem or_f (o : Option Tok) : o.isSome = (o.isSome || false) := (Bool.or_false _).symm
theorem add_state {a : Addr} {led : Bool} {ep : Nat} {o0 o1 o6 : Option Tok} {k : Int} {tk : Tok} {Q : Bool → Shared → Prop} (ho : s.heap.get? a = some (setO led ep o0 o1 o6)) (hk : k = -1 ∨ k = 0 ∨ k = 1)
    (h : ∀ h' ep' o0' o1' o6' b, Heap.SameBut a s.heap h' → h'.get? a = some (setO led ep' o0' o1' o6') → o0'.isSome = (o0.isSome || k == 0) → o1'.isSome = (o1.isSome || k == 1) → o6'.isSome = (o6.isSome || k == -1) → Q b { s with heap := h' }) :
    wpAny (model prog w) A (setAddHashed a (.int k tk) ((intKind prog w).hash k)) Q E s := by
  have hfi := find_iff (prog := prog) (w := w) o0 o1 o6 k
  have same : ∀ j, (setEls o0 o1 o6).toList.findIdx? (fun e => (intKind prog w).is k e.2) = some j → Q false s := by
    intro j hj
    rw [hj, Option.isSome_some] at hfi
    obtain ⟨e0, e1, e6⟩ := same3 _ _ _ _ _ _ (one3 hk) hfi
    exact h s.heap ep o0 o1 o6 false (Heap.SameBut.refl a s.heap) ho e0 e1 e6
  rcases hk with rfl | rfl | rfl
  · refine add_core (es' := setEls o0 o1 (some tk)) (t' := setTab led o0 o1 (some tk)) ho rfl (els_of _ _ _) (els_small _ _ _) (setFits _ _ _ _) same fun hn => ?_
    rw [hn, Option.isSome_none] at hfi
    cases none_of (out6 _ _ _ hfi)
    exact ⟨lay6 led o0 o1 tk, rfl, setRoom _ _ _ _, els_fit _ _ _, h _ _ o0 o1 (some tk) true (Heap.SameBut.update ..) (upd_setO ho) (or_f _) (or_f _) rfl⟩
  · refine add_core (es' := setEls (some tk) o1 o6) (t' := setTab led (some tk) o1 o6) ho rfl (els_of _ _ _) (els_small _ _ _) (setFits _ _ _ _) same fun hn => ?_
    rw [hn, Option.isSome_none] at hfi
    cases none_of (out0 _ _ _ hfi)
    exact ⟨lay0 led o1 o6 tk, rfl, setRoom _ _ _ _, els_fit _ _ _, h _ _ (some tk) o1 o6 true (Heap.SameBut.update ..) (upd_setO ho) rfl (or_f _) (or_f _)⟩
  · refine add_core (es' := setEls o0 (some tk) o6) (t' := setTab led o0 (some tk) o6) ho rfl (els_of _ _ _) (els_small _ _ _) (setFits _ _ _ _) same fun hn => ?_
    rw [hn, Option.isSome_none] at hfi
    cases none_of (out1 _ _ _ hfi)
    exact ⟨lay1 led o0 o6 tk, rfl, setRoom _ _ _ _, els_fit _ _ _, h _ _ o0 (some tk) o6 true (Heap.SameBut.update ..) (upd_setO ho) (or_f _) rfl (or_f _)⟩
end
end Mine

namespace Mine

noncomputable def SetMem (o0 o1 o6 : Option Tok) (l : List Int) : Prop := o0.isSome = l.any (· == 0) ∧ o1.isSome = l.any (· == 1) ∧ o6.isSome = l.any (· == -1)
noncomputable def three (ns : List Int) : Prop := ∀ i ∈ ns, i = -1 ∨ i = 0 ∨ i = 1
noncomputable def SetIn (led : Bool) (h : Heap) (a : Addr) (l : List Int) : Prop := ∃ ep o0 o1 o6, h.get? a = some (setO led ep o0 o1 o6) ∧ SetMem o0 o1 o6 l
section
variable {prog : Program} {w : World} {A : Around} {E : Value → Shared → Prop} {s : Shared}
theorem SetMem.add {o0 o1 o6 o0' o1' o6' : Option Tok} {l : List Int} {k : Int} (m : SetMem o0 o1 o6 l) (e0 : o0'.isSome = (o0.isSome || k == 0)) (e1 : o1'.isSome = (o1.isSome || k == 1)) (e6 : o6'.isSome = (o6.isSome || k == -1)) : SetMem o0' o1' o6' (l ++ [k]) := by
  refine ⟨?_, ?_, ?_⟩ <;> rw [List.any_append]
  · rw [e0, m.1]; simp
  · rw [e1, m.2.1]; simp
  · rw [e6, m.2.2]; simp

theorem set_loop {R : Result → Shared → Prop} {I : Addr} {fp wr : List Addr} {G : Array GenState → Array GenState → Prop} {P : Nat → Value → Prop} {St : Nat → Shared → Prop} {ns : List Int} {led : Bool}
    (W : WalksS prog w A.in1 I fp wr G ns.length P St) (S : Addr) (hSf : S ∉ fp) (h3 : three ns) (hval : ∀ i v, P i v → ∃ t, v = .int (ns.getD i 0) t) :
    ∀ (k i : Nat) (s : Shared), ns.length - i = k → i ≤ ns.length → St i s → SetIn led s.heap S (ns.take i) →
      (∀ s', Moved (S :: wr) G s s' → SetIn led s'.heap S ns → R (.ok (.ret .none)) s') →
      codeAny (model prog w) A (.builtin "set.update.loop" ⟨[.ref S, .ref I], []⟩) R s := by
  have hSw : S ∉ wr := fun h => hSf (W.sub _ h)
  have hsub : ∀ b ∈ wr, b ∈ S :: wr := fun b hb => List.mem_cons_of_mem _ hb
  intro k
  induction k with
  | zero =>
    intro i s hk hi hst hS hR
    have hin : i = ns.length := by omega
    subst hin
    refine codeAny_builtin PyProof.Rows.F.entry_set_update_loop ?_
    rw [Around.under_plainId PyProof.Rows.F.plain_set_update_loop _]
    show wpAny _ A.in1 (pyNext (.ref I) >>= _) _ _ s
    refine wpAny_bind (W.done s _ _ hst fun s' hm => ?_)
    show wpAny _ A.in1 (ret Value.none) _ _ s'
    refine wpAny_pure (hR s' (hm.mono hsub) ?_)
    obtain ⟨ep, o0, o1, o6, ho, m⟩ := hS
    rw [List.take_length] at m
    exact ⟨ep, o0, o1, o6, hm.heap S _ hSw ho, m⟩
  | succ k ih =>
    intro i s hk hi hst hS hR
    have hlt : i < ns.length := by omega
    refine codeAny_builtin PyProof.Rows.F.entry_set_update_loop ?_
    rw [Around.under_plainId PyProof.Rows.F.plain_set_update_loop _]
    show wpAny _ A.in1 (pyNext (.ref I) >>= _) _ _ s
    refine wpAny_bind (W.item i s _ _ hlt hst fun v s' hP hst' hm => ?_)
    obtain ⟨t, rfl⟩ := hval i v hP
    obtain ⟨ep, o0, o1, o6, ho, m⟩ := hS
    have ho' := hm.heap S _ hSw ho
    have hge : ns.getD i 0 = ns[i] := by rw [List.getD_eq_getElem?_getD, List.getElem?_eq_getElem hlt]; rfl
    have hk3 : ns.getD i 0 = -1 ∨ ns.getD i 0 = 0 ∨ ns.getD i 0 = 1 := by rw [hge]; exact h3 _ (List.getElem_mem hlt)
    show wpAny _ A.in1 (holding [Value.int (ns.getD i 0) t] (setAdd S (.int (ns.getD i 0) t)) >>= _) _ _ s'
    refine wpAny_bind (wpAny_holding ?_)
    unfold setAdd
    refine wpAny_holding ?_
    refine wpAny_bind ((intKind prog w).pyHash (k := ns.getD i 0) (intKind_is _ _ _ _) ?_)
    refine add_state (s := { s' with toks := s'.toks + 1 }) ho' hk3 fun h' ep' p0 p1 p6 b hsb ho2 e0 e1 e6 => ?_
    have hS2 : SetIn led h' S (ns.take (i + 1)) := by
      refine ⟨ep', p0, p1, p6, ho2, ?_⟩
      rw [List.take_add_one, List.getElem?_eq_getElem hlt, ← hge]
      exact m.add e0 e1 e6
    refine wpAny_pure ⟨plainId_quiet PyProof.Rows.F.plain_set_update_loop _, ih (i + 1) _ (by omega) hlt (W.frame _ s' _ _ hst' (Nat.le_succ _) fun b hb o e => ?_) hS2 fun s'' hm'' hS'' => ?_⟩
    · rw [hsb.2 b (fun h : b = S => hSf (by rw [← h]; exact hb))]; exact e
    · refine hR s'' (Moved.trans W.gtrans ((hm.mono hsub).then_heap (Nat.le_succ _) fun b o hb e => ?_) hm'') hS''
      rw [hsb.2 b (fun h : b = S => hb (by rw [h]; exact List.mem_cons_self))]; exact e

theorem set_made (a : Value) {Q₁ : Value → Shared → Prop}
    (h : Q₁ (.ref s.heap.objs.size) { s with heap := s.heap.push (setO (!w.params.followText "set-order") 0 none none none) }) :
    codeAny (model prog w) A (.call (.builtin "set.__new__") ⟨[.type "set", a], []⟩) (wants Q₁ E) s := by
  refine codeAny_of_tree ?_
  show wpAny _ A.in1 (do checkBuiltinCall "set.__new__" ⟨[.type "set", a], []⟩; again (.builtin "set.__new__" ⟨[.type "set", a], []⟩)) _ _ s
  refine wpAny_bind (wpAny_of_eq (F.newCall_set_1 a) (wpAny_pure ⟨plainId_quiet F.plain_set_new _, codeAny_builtin F.entry_set_new ?_⟩))
  rw [Around.under_plainId F.plain_set_new _]
  unfold Builtin.«set.__new__» Builtin.Frozenset.newClass
  have hsub := sub_set_self
  obtain ⟨hp, g, d, tk, os⟩ := s
  dsimp only
  wp_walk
  refine wpAny_askSetting (wpAny_pure ?_)
  dsimp only
  simp only [newObj]
  refine wpAny_bind (wpAny_alloc (wpAny_pure ?_))
  exact wpAny_pure h

theorem call_set3 {l : Addr} {items : Array Value} {ns : List Int} {Q : Value → Shared → Prop}
    (hh : A.handled = none) (hl : s.heap.IsList l items) (hi : IntsAre items.toList ns) (h3 : three ns)
    (h : ∀ (h' : Heap) (tk : Nat), SetIn (!w.params.followText "set-order") h' s.heap.objs.size ns → (∀ b o, b < s.heap.objs.size → s.heap.get? b = some o → h'.get? b = some o) → Q (.ref s.heap.objs.size) { s with heap := h', toks := tk }) :
    wpAny (model prog w) A (call (.type "set") [.ref l]) Q E s := by
  obtain ⟨c, tl, hmro⟩ := F.called_set.mro
  have hmade := F.called_set.made
  have hsub := F.called_set.sub
  have hlen : items.size = ns.length := by rw [← Array.length_toList]; exact IntsAre.length hi
  refine wpAny_call (codeAny_of_tree ?_)
  show wpAny _ _ (callAny (.type "set") _) _ _ _
  refine wpAny_pure ⟨Code.quiet_builtin _ (by decide +kernel), codeAny_builtin F.entry_type_call ?_⟩
  rw [Around.under_plain (weight_type_call_type "set" [.ref l] []) rfl]
  have h1 := F.called_set.notType
  have h2 := F.called_set.canCreate
  have hct := F.typeCall_set_1 (.ref l)
  repeat (any_goals (first | assumption | wp_step))
  refine codeAny_mono (set_made (.ref l) (E := E) (Q₁ := fun obj s₁ => obj = .ref s.heap.objs.size ∧ s₁ = { s with heap := s.heap.push (setO (!w.params.followText "set-order") 0 none none none) }) ⟨rfl, rfl⟩) fun r s₁ hr => ?_
  cases r with
  | error e => exact hr
  | ok fl =>
    cases fl with
    | ret obj =>
      obtain ⟨rfl, rfl⟩ := hr
      have hS : (s.heap.push (setO (!w.params.followText "set-order") 0 none none none)).get? s.heap.objs.size = some (setO (!w.params.followText "set-order") 0 none none none) := Heap.get?_push_size _ rfl
      have hT : Shared.TypeIs { s with heap := s.heap.push (setO (!w.params.followText "set-order") 0 none none none) } (.ref s.heap.objs.size) "set" := ⟨_, hS, rfl⟩
      have hli := F.called_set.init.lookup
      have hbi := F.called_set.init.bind (.ref s.heap.objs.size)
      repeat (any_goals (first | assumption | wp_step))
      refine codeAny_mono (codeAny_call_builtin (R := wants (fun r s₂ => r = .none ∧ ∃ h' tk, s₂ = { s with heap := h', toks := tk } ∧
          SetIn (!w.params.followText "set-order") h' s.heap.objs.size ns ∧ (∀ b o, b < s.heap.objs.size → s.heap.get? b = some o → h'.get? b = some o)) E) F.called_set.init.plain F.entry_set_init (check_set_init_1 hT ?_)) fun r₂ s₂ hr₂ => ?_
      · obtain ⟨ol, hol, hcl, nl, hdl⟩ := hl
        obtain ⟨ocls, odict, odata, oslots⟩ := ol
        simp only at hcl hdl
        subst hcl; subst hdl
        have hol' : (s.heap.push (setO (!w.params.followText "set-order") 0 none none none)).get? l = some { cls := .type "list", dict := odict, data := .seq items nl, slots := oslots } := Heap.get?_push_of_some _ hol
        have hsls := F.sub_list_set
        have hslf := F.sub_list_frozenset
        have hne : (Value.type "list" == Value.type "dict") = false := by decide
        have hl1 : (s.heap.push (setO (!w.params.followText "set-order") 0 none none none)).IsList l items := ⟨_, hol', rfl, nl, rfl⟩
        unfold Builtin.«set.__init__» noKeywords Builtin.Frozenset.updateFrom
        generalize hPI : pyIter = PI
        wp_walk
        subst hPI
        refine wpAny_pyIter_list hl1 ?_
        refine wpAny_bind (wpAny_runValue ?_)
        have hlS : l < s.heap.objs.size := Heap.lt_size hol
        have hh3 : A.in1.in1.in1.handled = none := by simp [hh]
        have hneI : l ≠ (s.heap.push (setO (!w.params.followText "set-order") 0 none none none)).objs.size := by
          rw [Heap.size_push]; exact Nat.ne_of_lt (Nat.lt_succ_of_lt hlS)
        have hSf : s.heap.objs.size ∉ [(s.heap.push (setO (!w.params.followText "set-order") 0 none none none)).objs.size, l] := by
          rw [Heap.size_push]; simp only [List.mem_cons, List.mem_singleton, List.not_mem_nil, or_false, not_or]
          exact ⟨Nat.ne_of_lt (Nat.lt_succ_self _), Nat.ne_of_gt hlS⟩
        have hval : ∀ (i : Nat) (v : Value), items[i]? = some v → ∃ t, v = .int (ns.getD i 0) t := fun i v hv => IntsAre.int_at hi i v (by rw [Array.getElem?_toList]; exact hv)
        have WW := (Walks.list (prog := prog) (w := w) hh3 _ l hneI items).toS
        rw [hlen] at WW
        refine set_loop (led := !w.params.followText "set-order") WW s.heap.objs.size hSf h3 hval (ns.length - 0) 0 _ (by omega) (Nat.zero_le _) ⟨⟨_, Heap.get?_push_size _ rfl, rfl, rfl⟩, (hl1.push _)⟩ ?hS0 ?hR
        case hS0 =>
          exact ⟨0, none, none, none, Heap.get?_push_of_some _ hS, rfl, rfl, rfl⟩
        case hR =>
          intro s' hm hS'
          obtain ⟨h', g', d', tk', os'⟩ := s'
          have eg : g' = s.gens := hm.gens
          have ed : d' = s.drawn := hm.drawn
          have eo : os' = s.os := hm.os
          subst eg; subst ed; subst eo
          show wpAny _ _ _ _ _ _
          refine wpAny_pure ?_
          show wpAny _ _ (ret Value.none) _ _ _
          refine wpAny_pure ⟨rfl, h', tk', rfl, hS', fun b o hb e => ?_⟩
          have hb1 : b ≠ s.heap.objs.size := Nat.ne_of_lt hb
          have hb2 : b ≠ (s.heap.push (setO (!w.params.followText "set-order") 0 none none none)).objs.size := by
            rw [Heap.size_push]; exact Nat.ne_of_lt (Nat.lt_succ_of_lt hb)
          exact hm.heap b o (by simp only [List.mem_cons, List.mem_singleton, List.not_mem_nil, or_false, not_or]; exact ⟨hb1, hb2⟩) (Heap.get?_push_of_some _ (Heap.get?_push_of_some _ e))
      · cases r₂ with
        | error e => exact hr₂
        | ok fl₂ =>
          cases fl₂ with
          | ret r =>
            obtain ⟨rfl, h', tk, rfl, hS', hk'⟩ := hr₂
            repeat (any_goals (first | assumption | wp_step))
            exact h _ _ hS' hk'
          | _ => exact hr₂.elim
    | _ => exact hr.elim
end
end Mine

namespace Mine

noncomputable def setItO (slot : Nat) (i : Nat) (a : Addr) (n ep : Nat) : Obj := { cls := .type "set_iterator", dict := none, data := .fields #[.int slot 0, .int i 0, .ref a, .int n 0, .int ep 0], slots := #[] }
noncomputable def walkL (w : World) (a : Addr) (ep : Nat) (es : Array (Int × Value)) : Array (Int × Value) := if w.params.followText "set-order" then pickOrder (w.params.setOrder a ep) es else es
section
variable {prog : Program} {w : World} {A : Around} {E : Value → Shared → Prop} {s : Shared} {a I : Addr} {ep : Nat} {o0 o1 o6 : Option Tok}
theorem state_set {Q : (Array (Int × Value) × Nat × SetTable) → Shared → Prop} {led : Bool} (ho : s.heap.get? a = some (setO led ep o0 o1 o6)) (h : Q (setEls o0 o1 o6, ep, setTab led o0 o1 o6) s) : wpAny (model prog w) A (setState a) Q E s :=
  wpAny_setState_of ho rfl (setFits _ _ _ _) h
theorem text_ask {Q : Bool → Shared → Prop} (h : Q (w.params.followText "set-order") s) : wpAny (model prog w) A setsByText Q E s := by
  unfold setsByText
  exact wpAny_bind (wpAny_askSetting (wpAny_pure h))
theorem walk_set {Q : Array (Int × Value) → Shared → Prop} (ho : s.heap.get? a = some (setO (!w.params.followText "set-order") ep o0 o1 o6)) (hb : w.params.followText "set-order" = true) (h : Q (walkL w a ep (setEls o0 o1 o6)) s) : wpAny (model prog w) A (setWalk a) Q E s := by
  unfold setWalk
  refine wpAny_bind (state_set ho ?_)
  dsimp only
  refine wpAny_bind (text_ask ?_)
  rw [hb]
  simp only [↓reduceIte]
  refine wpAny_bind (wpAny_askSetting (wpAny_pure ?_))
  unfold walkL at h
  rw [hb] at h
  exact h
theorem next_set {Q : Option (Value × Nat) → Shared → Prop} {slot i : Nat} (ho : s.heap.get? a = some (setO (!w.params.followText "set-order") ep o0 o1 o6))
    (hst : w.params.followText "set-order" = false → SetTable.below (setPl o0 o1 o6) slot = i)
    (hT : w.params.followText "set-order" = true → Q (((walkL w a ep (setEls o0 o1 o6))[i]?).map fun e => (e.2, slot)) s)
    (hF : w.params.followText "set-order" = false → Q (match (setEls o0 o1 o6)[i]?, (setPl o0 o1 o6)[i]? with | some (_, x), some j => some (x, j + 1) | _, _ => none) s) : wpAny (model prog w) A (setNext a slot i ep) Q E s := by
  unfold setNext
  refine wpAny_bind (state_set ho ?_)
  dsimp only
  refine wpAny_bind (text_ask ?_)
  cases hb : w.params.followText "set-order" with
  | true =>
    simp only [↓reduceIte, bne_self_eq_false, Bool.false_eq_true]
    rw [hb] at ho
    refine wpAny_bind (walk_set (by rw [hb]; exact ho) hb (wpAny_pure (hT hb)))
  | false =>
    simp only [Bool.false_eq_true, ↓reduceIte]
    refine wpAny_ite_split (fun h => absurd h Bool.false_ne_true) (fun _ => ?_)
    refine wpAny_bind (wpAny_pure ?_)
    have e : SetTable.below (setTab (!false) o0 o1 o6).place slot = i := hst hb
    rw [e]
    exact wpAny_pure (hF hb)
end
end Mine

namespace Mine
theorem args_seti (a : Value) : argsOk "set_iterator.__next__" ⟨[a], []⟩ := by
  unfold argsOk; rw [signature?_of (id := "set_iterator.__next__") (n := ['_', '_', 't', 'x', 'e', 'n', '_', '_']) (o := ['r', 'o', 't', 'a', 'r', 'e', 't', 'i', '_', 't', 'e', 's']) (by kernel_rfl) (show Manifest.owners.lookup (String.ofList ['r', 'o', 't', 'a', 'r', 'e', 't', 'i', '_', 't', 'e', 's'].reverse) = some Manifest.sig_set_iterator by kernel_rfl)]; kernel_rfl
section
variable {prog : Program} {w : World} {A : Around} {E : Value → Shared → Prop} {s : Shared} {a I : Addr} {ep : Nat} {o0 o1 o6 : Option Tok}
theorem iter_set {Q : Value → Shared → Prop} (ho : s.heap.get? a = some (setO (!w.params.followText "set-order") ep o0 o1 o6))
    (hQ : Q (.ref s.heap.objs.size) { s with heap := s.heap.push (setItO 0 0 a (setEls o0 o1 o6).size ep) }) : wpAny (model prog w) A (pyIter (.ref a)) Q E s := by
  have hT : s.TypeIs (.ref a) "set" := ⟨_, ho, rfl⟩
  refine wpAny_pyIter_slot hT F.slot_set_iter (wpAny_call_entry F.slot_set_iter hT entry_setiter ?_ (F.args_set_iter_1 _))
  unfold Builtin.«frozenset.__iter__» Builtin.Frozenset.slot0 slotArgs
  simp only [List.isEmpty_nil, Bool.not_true, Bool.false_eq_true, ↓reduceIte, bind_assoc, List.length_nil, bne_self_eq_false]
  unfold Builtin.Frozenset.addrOf Builtin.Frozenset.sizeOf
  refine wpAny_bind (wpAny_pure ?_)
  try dsimp only
  refine wpAny_bind (wpAny_pure ?_)
  refine wpAny_bind ?_
  unfold setEntries
  refine wpAny_bind (wpAny_bind (state_set ho (wpAny_pure (wpAny_pure ?_))))
  refine wpAny_bind ?_
  unfold setDrawn
  refine wpAny_bind (state_set ho ?_)
  dsimp only
  refine wpAny_bind (text_ask (wpAny_pure ?_))
  refine wpAny_ite_split (fun h => ?_) (fun _ => ?_)
  · exfalso
    have h' : (!w.params.followText "set-order" && (!true && decide ((setEls o0 o1 o6).size > 1))) = true := h
    simp at h'
  refine wpAny_bind (wpAny_pure ?_)
  refine wpAny_bind ?_
  unfold setEpoch
  refine wpAny_bind (state_set ho (wpAny_pure ?_))
  refine wpAny_bind (wpAny_newObj_type (wpAny_pure ⟨_, rfl, "set_iterator", _, ⟨_, Heap.get?_push_size _ rfl, rfl⟩, slot_seti.lookup, ?_⟩))
  exact hQ

theorem els_pl (o0 o1 o6 : Option Tok) : (setPl o0 o1 o6).size = (setEls o0 o1 o6).size := by
  unfold setPl setEls; simp

theorem walk_size (w : World) (a : Addr) (ep : Nat) (es : Array (Int × Value)) (hp : (pickOrder (w.params.setOrder a ep) es).size = es.size) : (walkL w a ep es).size = es.size := by
  unfold walkL; split <;> simp [*]

noncomputable def SetWalkSt (w : World) (a I : Addr) (ep : Nat) (o0 o1 o6 : Option Tok) (i : Nat) (h : Heap) : Prop :=
  h.get? a = some (setO (!w.params.followText "set-order") ep o0 o1 o6) ∧ ∃ slot, h.get? I = some (setItO slot i a (setEls o0 o1 o6).size ep) ∧ (w.params.followText "set-order" = false → SetTable.below (setPl o0 o1 o6) slot = i)

theorem nextO {slot i : Nat} (hI : s.heap.get? I = some (setItO slot i a (setEls o0 o1 o6).size ep)) (ho : s.heap.get? a = some (setO (!w.params.followText "set-order") ep o0 o1 o6)) (hst : w.params.followText "set-order" = false → SetTable.below (setPl o0 o1 o6) slot = i)
    (hp : (walkL w a ep (setEls o0 o1 o6)).size = (setEls o0 o1 o6).size) {Q : PySem.Fin → Shared → Prop}
    (hmore : ∀ e h' slot', i < (setEls o0 o1 o6).size → (walkL w a ep (setEls o0 o1 o6))[i]? = some e → h'.get? I = some (setItO slot' (i + 1) a (setEls o0 o1 o6).size ep) → (w.params.followText "set-order" = false → SetTable.below (setPl o0 o1 o6) slot' = i + 1) → Heap.SameBut I s.heap h' → Q (.done (.ret e.2)) { s with heap := h' })
    (hend : ∀ h' e, (setEls o0 o1 o6).size ≤ i → (∀ c o, c ≠ I → s.heap.get? c = some o → h'.get? c = some o) → (∃ o, h'.get? e = some o ∧ o.cls = .type "StopIteration") → E (.ref e) { s with heap := h' }) (hh : A.handled = none) :
    wpAny (model prog w) A (Builtin.«set_iterator.__next__» ⟨[.ref I], []⟩) Q E s := by
  unfold Builtin.«set_iterator.__next__» slotArgs
  simp only [List.isEmpty_nil, Bool.not_true, Bool.false_eq_true, ↓reduceIte, bind_assoc, List.length_nil, bne_self_eq_false]
  refine wpAny_bind (wpAny_pure ?_)
  refine wpAny_bind (wpAny_fieldsOf hI rfl ?_)
  dsimp only
  unfold setEntries
  refine wpAny_bind (wpAny_bind (state_set ho (wpAny_pure ?_)))
  refine wpAny_ite_split (fun h => absurd h (by simp)) (fun _ => ?_)
  have item : ∀ (x : Value) (nx : Nat) (e : Int × Value), e.2 = x → i < (setEls o0 o1 o6).size → (walkL w a ep (setEls o0 o1 o6))[i]? = some e → (w.params.followText "set-order" = false → SetTable.below (setPl o0 o1 o6) nx = i + 1) →
      wpAny (model prog w) A (do
        setField (.ref I) 0 (rawInt nx)
        setField (.ref I) 1 (rawInt ((i : Int) + 1))
        ret x) Q E s := by
    rintro x nx e rfl hi he hb
    refine wpAny_bind (wpAny_setField_rec hI (by simp) fun h₁ hI₁ hs₁ => ?_)
    refine wpAny_bind (wpAny_setField_rec (s := { s with heap := h₁ }) hI₁ (by simp) fun h₂ hI₂ hs₂ => ?_)
    exact wpAny_pure (hmore e h₂ nx hi he hI₂ hb (hs₁.trans hs₂))
  have stop : (setEls o0 o1 o6).size ≤ i → wpAny (model prog w) A (do
        setField (.ref I) 2 .none
        let e ← newExc (.type "StopIteration") []
        raiseNew e) Q E s := by
    intro hi
    refine wpAny_bind (wpAny_setField hI rfl (by simp) ?_)
    refine wpAny_bind ?_
    simp only [newExc, newTuple]
    refine wpAny_bind (wpAny_newObj_type ?_ (by size_fits))
    refine wpAny_bind (m := firstArgMember _ _) (wpAny_of_eq (a := Value.none) (by first | rfl | (simp only [firstArgMember]; rfl)) ?_)
    refine wpAny_newObj_type ?_ (by size_fits)
    simp only [raiseNew]
    refine wpAny_bind (wpAny_handled ?_)
    rw [show A.handled = none from hh]
    refine wpAny_bind (wpAny_pure (wpAny_throw ?_))
    refine hend _ _ hi (fun c o hc e => ?_) ⟨_, Heap.get?_push_size _ rfl, rfl⟩
    exact Heap.get?_push_of_some _ (Heap.get?_push_of_some _ ((Heap.get?_update_other _ _ (Ne.symm hc)).trans e))
  refine wpAny_bind (next_set (by exact ho) (by exact hst) (fun hb => ?_) (fun hb => ?_))
  · by_cases hi : i < (setEls o0 o1 o6).size
    · have he : (walkL w a ep (setEls o0 o1 o6))[i]? = some (walkL w a ep (setEls o0 o1 o6))[i] := Array.getElem?_eq_getElem (by rw [hp]; exact hi)
      show wpAny _ _ (match ((walkL w a ep (setEls o0 o1 o6))[i]?).map fun e => (e.2, slot) with | some (x, next) => _ | none => _) _ _ _
      rw [he]
      exact item _ _ _ rfl hi he fun h => by rw [hb] at h; cases h
    · show wpAny _ _ (match ((walkL w a ep (setEls o0 o1 o6))[i]?).map fun e => (e.2, slot) with | some (x, next) => _ | none => _) _ _ _
      rw [Array.getElem?_eq_none (by rw [hp]; omega)]
      exact stop (by omega)
  · have hw : walkL w a ep (setEls o0 o1 o6) = setEls o0 o1 o6 := by unfold walkL; rw [hb]; rfl
    show wpAny _ _ (match (match (setEls o0 o1 o6)[i]?, (setPl o0 o1 o6)[i]? with | some (_, x), some j => some (x, j + 1) | _, _ => none) with | some (x, next) => _ | none => _) _ _ _
    by_cases hi : i < (setEls o0 o1 o6).size
    · have hi' : i < (setPl o0 o1 o6).size := by rw [els_pl]; exact hi
      have he := Array.getElem?_eq_getElem hi
      rw [he, Array.getElem?_eq_getElem hi']
      refine item _ _ _ rfl hi (by rw [hw]; exact he) fun _ => ?_
      have := below0 true o0.isSome o1.isSome o6.isSome i (by rw [← setTab_eq]; exact hi')
      rw [← setTab_eq] at this
      have hg : (setTab true o0 o1 o6).place.getD i 0 = (setPl o0 o1 o6)[i] := by
        show (setPl o0 o1 o6).getD i 0 = _
        rw [Array.getD_eq_getD_getElem?, Array.getElem?_eq_getElem hi']; rfl
      rw [hg] at this
      exact this
    · rw [Array.getElem?_eq_none (by omega)]
      exact stop (by omega)
end
end Mine

namespace Mine
theorem slot_seti_iter : Slot "set_iterator" "__iter__" "set_iterator.__iter__" :=
  .of (owner := "set_iterator") (n := "__iter__") (by rw [typeLookup_type, builtinLookup_eq_fast]; kernel_rfl) (by decide +kernel) (by decide +kernel) (by decide +kernel)
    (by first | exact .inl (by decide +kernel) | exact .inr (by decide +kernel)) (by rw [isSubtype_type]; kernel_rfl)
theorem entry_seti_iter : entryFor table "set_iterator.__iter__" = some Builtin.«dict_keyiterator.__iter__» := entryFor_alias (id' := "dict_keyiterator.__iter__") (by kernel_rfl) rfl (by decide +kernel) (by kernel_rfl)
theorem args_seti_iter (a : Value) : argsOk "set_iterator.__iter__" ⟨[a], []⟩ := by
  unfold argsOk; rw [signature?_of (id := "set_iterator.__iter__") (n := ['_', '_', 'r', 'e', 't', 'i', '_', '_']) (o := ['r', 'o', 't', 'a', 'r', 'e', 't', 'i', '_', 't', 'e', 's']) (by kernel_rfl) (show Manifest.owners.lookup (String.ofList ['r', 'o', 't', 'a', 'r', 'e', 't', 'i', '_', 't', 'e', 's'].reverse) = some Manifest.sig_set_iterator by kernel_rfl)]; kernel_rfl

theorem erase_perm {α : Type} : ∀ (l : List α) (k : Nat) (h : k < l.length), (l[k] :: l.eraseIdx k).Perm l
  | x :: l, 0, _ => List.Perm.refl _
  | x :: l, k + 1, h => by
    have := erase_perm l k (by simpa using h)
    simp only [List.getElem_cons_succ, List.eraseIdx_cons_succ]
    exact (List.Perm.swap _ _ _).trans (this.cons x)
theorem pick_go {α : Type} (next : Nat → Nat) : ∀ (fuel k : Nat) (left : List α) (out : Array α), left.length = fuel → (pickOrder.go next fuel k left out).toList.Perm (out.toList ++ left) := by
  intro fuel
  induction fuel with
  | zero =>
    intro k left out hl
    unfold pickOrder.go
    rw [List.length_eq_zero_iff.mp hl, List.append_nil]
  | succ n ih =>
    intro k left out hl
    have hlt : next k % left.length < left.length := Nat.mod_lt _ (by omega)
    unfold pickOrder.go
    rw [List.getElem?_eq_getElem hlt]
    refine (ih (k + 1) _ _ (by rw [List.length_eraseIdx, if_pos hlt]; omega)).trans ?_
    rw [Array.toList_push, List.append_assoc]
    refine List.Perm.append_left _ ?_
    rw [List.singleton_append]
    exact erase_perm left _ hlt
theorem pick_perm {α : Type} (next : Nat → Nat) (xs : Array α) : (pickOrder next xs).toList.Perm xs.toList := by
  have := pick_go next xs.size 0 xs.toList #[] (Array.length_toList)
  simpa [pickOrder] using this
theorem walk_perm (w : World) (a : Addr) (ep : Nat) (es : Array (Int × Value)) : (walkL w a ep es).toList.Perm es.toList := by
  unfold walkL
  split
  · exact pick_perm _ _
  · exact List.Perm.refl _
theorem walk_sz (w : World) (a : Addr) (ep : Nat) (es : Array (Int × Value)) : (walkL w a ep es).size = es.size := by
  rw [← Array.length_toList, (walk_perm w a ep es).length_eq, Array.length_toList]

section
variable {prog : Program} {w : World} {A : Around} {E : Value → Shared → Prop} {s : Shared} {a I : Addr} {ep : Nat} {o0 o1 o6 : Option Tok}
theorem Walks.set (hh : A.handled = none) (hne : a ≠ I) :
    Walks prog w A I [I, a] [I] (setEls o0 o1 o6).size (fun i v => (walkL w a ep (setEls o0 o1 o6))[i]?.map (·.2) = some v) (SetWalkSt w a I ep o0 o1 o6) where
  sub := fun b hb => by simp at hb; simp [hb]
  frame := fun i h h' st hk => by
    obtain ⟨h1, slot, h2, h3⟩ := st
    exact ⟨hk a (by simp) _ h1, slot, hk I (by simp) _ h2, h3⟩
  item := fun i s Q E hi st hQ => by
    obtain ⟨h1, slot, h2, h3⟩ := st
    have hTy : s.TypeIs (.ref I) "set_iterator" := ⟨_, h2, rfl⟩
    unfold pyNext
    refine wpAny_bind (wpAny_attempt (wpAny_callSpecial?_slot (name := Str.ofString "__next__") hTy slot_seti
      (wpAny_call_entry slot_seti hTy entry_seti (nextO h2 h1 h3 (walk_sz _ _ _ _) (fun e h' slot' _ he hI' hb hs => ?_) (fun _ _ hle => absurd hi (Nat.not_lt.mpr hle)) hh) (args_seti _))))
    refine ⟨e.2, rfl, wpAny_pure (hQ e.2 h' s.toks (by rw [he]; rfl) ⟨(hs.2 a hne).trans h1, slot', hI', hb⟩ fun b o hb e => (hs.2 b (by simpa using hb)).trans e)⟩
  done := fun s Q E st hQ => by
    obtain ⟨h1, slot, h2, h3⟩ := st
    have hTy : s.TypeIs (.ref I) "set_iterator" := ⟨_, h2, rfl⟩
    unfold pyNext
    refine wpAny_bind (wpAny_attempt (wpAny_callSpecial?_slot (name := Str.ofString "__next__") hTy slot_seti
      (wpAny_call_entry slot_seti hTy entry_seti (nextO h2 h1 h3 (walk_sz _ _ _ _) (fun e h' slot' hlt _ _ _ _ => absurd hlt (Nat.lt_irrefl _)) (fun h' e _ hk he => ?_) hh) (args_seti _))))
    obtain ⟨o, ho, hc⟩ := he
    refine wpAny_bind (wpAny_isInstance (T := "StopIteration") (b := true) ⟨o, ho, hc⟩ isSubtype_stop ?_)
    exact wpAny_pure (hQ h' s.toks fun b o hb e => hk b o (by simpa using hb) e)
  self := fun i s Q E st hQ => by
    obtain ⟨h1, slot, h2, h3⟩ := st
    have hTy : s.TypeIs (.ref I) "set_iterator" := ⟨_, h2, rfl⟩
    refine wpAny_pyIter_slot hTy slot_seti_iter (wpAny_call_entry slot_seti_iter hTy entry_seti_iter ?_ (args_seti_iter _))
    show wpAny _ _ (ret (.ref I)) _ _ s
    exact wpAny_pure ⟨_, rfl, "set_iterator", _, hTy, slot_seti.lookup, hQ⟩

theorem hint_set {Q : Bool → Shared → Prop} (hT : s.TypeIs (.ref a) "set") (h : Q false s) : wpAny (model prog w) A (Builtin.List.listLengthHint (.ref a)) Q E s := by
  unfold Builtin.List.listLengthHint
  refine wpAny_bind (wpAny_specialOf hT F.slot_set_len.lookup ?_)
  generalize hid : ("set.__len__" : String) = id0
  wp_delta
  rw [show splitId id0 = some ("set", "__len__") from by subst hid; decide +kernel]
  subst hid
  refine wpAny_bind (wpAny_isInstance (T := "set") (b := true) hT (by rw [isSubtype_type]; kernel_rfl) ?_)
  refine wpAny_ite_split (fun hab => absurd hab (by decide)) (fun _ => ?_)
  refine wpAny_ite_split (fun _ => ?_) (fun hab => absurd (by decide +kernel) hab)
  refine wpAny_bind (wpAny_typeOf hT ?_)
  exact wpAny_pure h

theorem src_set : KdlSrc prog w "set" a a (setEls o0 o1 o6).size (fun i v => (walkL w a ep (setEls o0 o1 o6))[i]?.map (·.2) = some v) (fun h => h.get? a = some (setO (!w.params.followText "set-order") ep o0 o1 o6)) where
  type := fun s h => ⟨_, h, rfl⟩
  there := fun h e => ⟨Heap.lt_size e, Heap.lt_size e⟩
  keep := fun h h' e hk => hk a (.inl rfl) _ e
  notList := by decide
  notTuple := by decide
  hint := fun A E s Q ok h => hint_set ⟨_, ok, rfl⟩ h
  iter := fun A s hh ok => by
    refine ⟨setItO 0 0 a (setEls o0 o1 o6).size ep, SetWalkSt w a s.heap.objs.size ep o0 o1 o6, fun E Q hQ => iter_set ok hQ, Walks.set hh (Nat.ne_of_lt (Heap.lt_size ok)), ?_⟩
    refine ⟨Heap.get?_push_of_some _ ok, 0, Heap.get?_push_size _ rfl, fun _ => ?_⟩
    have := belowZ true o0.isSome o1.isSome o6.isSome
    rw [← setTab_eq] at this
    exact this

noncomputable def valI : Value → Int | .int i _ => i | _ => 0
theorem ints_all : ∀ (vs : List Value), (∀ v ∈ vs, ∃ i t, v = .int i t) → IntsAre vs (vs.map valI)
  | [], _ => .nil
  | v :: vs, h => by
    obtain ⟨i, t, rfl⟩ := h v (.head _)
    exact .cons i t (ints_all vs fun v hv => h v (.tail _ hv))
theorem els_int (o0 o1 o6 : Option Tok) : ∀ v ∈ (setEls o0 o1 o6).toList.map (·.2), ∃ i t, v = .int i t := by
  show ∀ v ∈ ((slotEls o0 o1 o6).map (·.2)).map (·.2), _
  unfold slotEls
  cases o0 <;> cases o1 <;> cases o6 <;> simp
theorem els_val (o0 o1 o6 : Option Tok) : ((setEls o0 o1 o6).toList.map (·.2)).map valI = (if o0.isSome then [0] else []) ++ (if o1.isSome then [1] else []) ++ (if o6.isSome then [-1] else []) := by
  cases o0 <;> cases o1 <;> cases o6 <;> rfl
end
end Mine

namespace Mine

theorem len0 {α : Type} {l : List α} (h : l.length = 0) : l = [] := List.length_eq_zero_iff.mp h
theorem len1 {α : Type} {l : List α} (h : l.length = 1) : ∃ a, l = [a] := by
  cases l with
  | nil => cases h
  | cons a l => exact ⟨a, by rw [len0 (Nat.succ.inj h)]⟩
theorem len2 {α : Type} {l : List α} (h : l.length = 2) : ∃ a b, l = [a, b] := by
  cases l with
  | nil => cases h
  | cons a l =>
    obtain ⟨b, rfl⟩ := len1 (Nat.succ.inj h)
    exact ⟨a, b, rfl⟩
theorem len3 {α : Type} {l : List α} (h : l.length = 3) : ∃ a b c, l = [a, b, c] := by
  cases l with
  | nil => cases h
  | cons a l =>
    obtain ⟨b, c, rfl⟩ := len2 (Nat.succ.inj h)
    exact ⟨a, b, c, rfl⟩

/-! sizes, with small contexts -/
theorem sl_of {n m : Nat} (h : n ≤ m) (k : m ≤ 16777216 := by decide) : n ≤ sizeLine := Nat.le_trans h k
theorem sl_map {α β : Type} {f : α → β} {l : List α} {m : Nat} (h : l.length ≤ m) (k : m ≤ 16777216 := by decide) : (l.map f).length ≤ sizeLine := by rw [List.length_map]; exact Nat.le_trans h k
theorem sl_range {n m : Nat} (h : n ≤ m) (k : m ≤ 16777216 := by decide) : (List.range n).length ≤ sizeLine := by rw [List.length_range]; exact Nat.le_trans h k
theorem sl_app {α : Type} {l r : List α} {a b : Nat} (h : l.length ≤ a) (k : r.length ≤ b) (j : a + b ≤ 16777216 := by decide) : l.length + r.length ≤ sizeLine := Nat.le_trans (Nat.add_le_add h k) j
theorem lt_of {n m b : Nat} (h : n ≤ m) (k : m < b := by decide) : n < b := Nat.lt_of_le_of_lt h k
theorem le_of {n m b : Nat} (h : n ≤ m) (k : m ≤ b := by decide) : n ≤ b := Nat.le_trans h k
theorem len_map_lt {α β : Type} {f : α → β} {l : List α} {m b : Nat} (h : l.length ≤ m) (k : m < b := by decide) : (l.map f).length < b := by rw [List.length_map]; exact Nat.lt_of_le_of_lt h k
theorem len_map_le {α β : Type} {f : α → β} {l : List α} {m b : Nat} (h : l.length ≤ m) (k : m ≤ b := by decide) : (l.map f).length ≤ b := by rw [List.length_map]; exact Nat.le_trans h k
theorem int_lt {n : Nat} {m : Nat} (h : n ≤ m) (k : (m : Int) < 2 ^ 62 := by decide) : ((n : Nat) : Int) < 2 ^ 62 := Int.lt_of_le_of_lt (Int.ofNat_le.mpr h) k
theorem nat0 (n : Nat) : (0 : Int) ≤ (n : Nat) := Int.natCast_nonneg n
theorem nat63 {n m : Nat} (h : n ≤ m) (k : (m : Int) < 2 ^ 63 := by decide) : ((n : Nat) : Int) < 2 ^ 63 := Int.lt_of_le_of_lt (Int.ofNat_le.mpr h) k

abbrev FM := Addr → Option Obj

inductive D where
  | none
  | bool (b : Bool)
  | int (i : Int)
  | str (x : Str)
  | tup (ds : List D)
  | tupg (ds : List D)
  | list (ds : List D)
  | dict (kvs : List (Str × Int))
  | keys (ds : List D)
  | ent (ds : List D)
  | raw (o : Obj)
  | arg (ds : List D)
  | slice (lo hi st : Option Int)
  | range (a b : Int)
  | set (ns : List Int)
  | items (kvs : List (Str × Int))
  | vals (kvs : List (Str × Int))

noncomputable def tv (p : Str × Value) : Str × Option Int := (p.1, match p.2 with | .int i _ => some i | _ => none)

noncomputable def DictObj (prog : Program) (w : World) (o : Obj) (kvs : List (Str × Int)) : Prop :=
  ∃ kv : List (Str × Value), Obj.IsDictOf (strKind prog w) o kv ∧ kv.map tv = kvs.map fun p => (p.1, some p.2)

noncomputable def SetObj (w : World) (o : Obj) (ns : List Int) : Prop := ∃ ep o0 o1 o6, o = setO (!w.params.followText "set-order") ep o0 o1 o6 ∧ SetMem o0 o1 o6 ns

abbrev cTup : Addr := 45
abbrev cEnt : Addr := 101

mutual
inductive Rd (prog : Program) (w : World) (φ : FM) : Value → D → Prop
  | none : Rd prog w φ .none .none
  | bool (b : Bool) : Rd prog w φ (.bool b) (.bool b)
  | int (i : Int) (t : Tok) : Rd prog w φ (.int i t) (.int i)
  | str (x : Str) (t : Tok) : Rd prog w φ (.str x t) (.str x)
  | tup {a : Addr} {vs : List Value} {n : Nat} {ds : List D} : φ a = some { cls := .type "tuple", data := .seq vs.toArray n } → RdAll prog w φ vs ds → Rd prog w φ (.ref a) (.tup ds)
  | tupg {a : Addr} {o : Obj} {vs : List Value} {n : Nat} {ds : List D} : φ a = some o → o.cls = .type "tuple" → o.data = .seq vs.toArray n → RdAll prog w φ vs ds → Rd prog w φ (.ref a) (.tupg ds)
  | list {a : Addr} {vs : List Value} {n : Nat} {ds : List D} : φ a = some (listOf vs.toArray n) → RdAll prog w φ vs ds → Rd prog w φ (.ref a) (.list ds)
  | dict {a : Addr} {o : Obj} {kvs : List (Str × Int)} : φ a = some o → DictObj prog w o kvs → (a == sysModules) = false → Rd prog w φ (.ref a) (.dict kvs)
  | keys {a dx : Addr} {h : Int} {t : Tok} {v : Value} {n : Nat} {ds : List D} : φ a = some (instObj cTup dx) → φ dx = some (dictOf [⟨h, .str "comp_select_list" t, v⟩] n) → Rd prog w φ v (.list ds) → Rd prog w φ (.ref a) (.keys ds)
  | ent {a dx : Addr} {h1 h2 h3 h4 : Int} {t1 t2 t3 t4 : Tok} {v1 v2 v3 v4 : Value} {n : Nat} {ds : List D} : φ a = some (instObj cEnt dx) →
      φ dx = some (dictOf [⟨h1, .str "useragents" t1, v1⟩, ⟨h2, .str "rulelines" t2, v2⟩, ⟨h3, .str "delay" t3, v3⟩, ⟨h4, .str "req_rate" t4, v4⟩] n) → Rd prog w φ v1 (.list ds) → Rd prog w φ (.ref a) (.ent ds)
  | raw {a : Addr} {o : Obj} : φ a = some o → Rd prog w φ (.ref a) (.raw o)
  | arg {a : Addr} {o : Obj} {vs : List Value} {n : Nat} {ds : List D} : φ a = some o → o.cls = .type "list" → o.data = .seq vs.toArray n → RdAll prog w φ vs ds → Rd prog w φ (.ref a) (.arg ds)
  | slice {a : Addr} {v1 v2 v3 : Value} {lo hi st : Option Int} : φ a = some { cls := .type "slice", data := .fields #[v1, v2, v3] } → IsPart v1 lo → IsPart v2 hi → IsPart v3 st → Rd prog w φ (.ref a) (.slice lo hi st)
  | range {r : Addr} {a b : Int} {t u v : Tok} : φ r = some { cls := .type "range", dict := none, data := .fields #[.int a t, .int b u, .int 1 v], slots := #[] } → Rd prog w φ (.ref r) (.range a b)
  | set {a : Addr} {o : Obj} {ns : List Int} : φ a = some o → SetObj w o ns → Rd prog w φ (.ref a) (.set ns)
  | items {a d : Addr} {o od : Obj} {kvs : List (Str × Int)} : φ a = some o → o.cls = .type "dict_items" → o.data = .fields #[.ref d] → φ d = some od → DictObj prog w od kvs → Rd prog w φ (.ref a) (.items kvs)
  | vals {a d : Addr} {o od : Obj} {kvs : List (Str × Int)} : φ a = some o → o.cls = .type "dict_values" → o.data = .fields #[.ref d] → φ d = some od → DictObj prog w od kvs → Rd prog w φ (.ref a) (.vals kvs)
inductive RdAll (prog : Program) (w : World) (φ : FM) : List Value → List D → Prop
  | nil : RdAll prog w φ [] []
  | cons {v : Value} {vs : List Value} {d : D} {ds : List D} : Rd prog w φ v d → RdAll prog w φ vs ds → RdAll prog w φ (v :: vs) (d :: ds)
end

/-- what a value is that reads as d -/
noncomputable def InvD (prog : Program) (w : World) (φ : FM) (v : Value) : D → Prop
  | .none => v = .none
  | .bool b => v = .bool b
  | .int i => ∃ t, v = .int i t
  | .str x => ∃ t, v = .str x t
  | .tup ds => ∃ a vs n, v = .ref a ∧ φ a = some { cls := .type "tuple", data := .seq (List.toArray vs) n } ∧ RdAll prog w φ vs ds
  | .tupg ds => ∃ a o vs n, v = .ref a ∧ φ a = some o ∧ o.cls = .type "tuple" ∧ o.data = .seq (List.toArray vs) n ∧ RdAll prog w φ vs ds
  | .list ds => ∃ a vs n, v = .ref a ∧ φ a = some (listOf (List.toArray vs) n) ∧ RdAll prog w φ vs ds
  | .dict kvs => ∃ a o, v = .ref a ∧ φ a = some o ∧ DictObj prog w o kvs ∧ (a == sysModules) = false
  | .keys ds => ∃ a dx h t u n, v = .ref a ∧ φ a = some (instObj cTup dx) ∧ φ dx = some (dictOf [⟨h, .str "comp_select_list" t, u⟩] n) ∧ Rd prog w φ u (.list ds)
  | .ent ds => ∃ a dx h1 h2 h3 h4 t1 t2 t3 t4 v1 v2 v3 v4 n, v = .ref a ∧ φ a = some (instObj cEnt dx) ∧
      φ dx = some (dictOf [⟨h1, .str "useragents" t1, v1⟩, ⟨h2, .str "rulelines" t2, v2⟩, ⟨h3, .str "delay" t3, v3⟩, ⟨h4, .str "req_rate" t4, v4⟩] n) ∧ Rd prog w φ v1 (.list ds)
  | .raw o => ∃ a, v = .ref a ∧ φ a = some o
  | .arg ds => ∃ a o vs n, v = .ref a ∧ φ a = some o ∧ o.cls = .type "list" ∧ o.data = .seq (List.toArray vs) n ∧ RdAll prog w φ vs ds
  | .slice lo hi st => ∃ a v1 v2 v3, v = .ref a ∧ φ a = some { cls := .type "slice", data := .fields #[v1, v2, v3] } ∧ IsPart v1 lo ∧ IsPart v2 hi ∧ IsPart v3 st
  | .range i j => ∃ r t u z, v = .ref r ∧ φ r = some { cls := .type "range", dict := none, data := .fields #[.int i t, .int j u, .int 1 z], slots := #[] }
  | .set ns => ∃ a o, v = .ref a ∧ φ a = some o ∧ SetObj w o ns
  | .items kvs => ∃ a d o od, v = .ref a ∧ φ a = some o ∧ o.cls = .type "dict_items" ∧ o.data = .fields #[.ref d] ∧ φ d = some od ∧ DictObj prog w od kvs
  | .vals kvs => ∃ a d o od, v = .ref a ∧ φ a = some o ∧ o.cls = .type "dict_values" ∧ o.data = .fields #[.ref d] ∧ φ d = some od ∧ DictObj prog w od kvs
theorem Rd.inv {prog : Program} {w : World} {φ : FM} {v : Value} {d : D} (h : Rd prog w φ v d) : InvD prog w φ v d :=
  match h with
  | .none => rfl
  | .bool _ => rfl
  | .int _ t => ⟨t, rfl⟩
  | .str _ t => ⟨t, rfl⟩
  | .tup h1 r => ⟨_, _, _, rfl, h1, r⟩
  | .tupg h1 h2 h3 r => ⟨_, _, _, _, rfl, h1, h2, h3, r⟩
  | .list h1 r => ⟨_, _, _, rfl, h1, r⟩
  | .dict h1 h2 h3 => ⟨_, _, rfl, h1, h2, h3⟩
  | .keys h1 h2 r => ⟨_, _, _, _, _, _, rfl, h1, h2, r⟩
  | .ent h1 h2 r => ⟨_, _, _, _, _, _, _, _, _, _, _, _, _, _, _, rfl, h1, h2, r⟩
  | .raw h1 => ⟨_, rfl, h1⟩
  | .arg h1 h2 h3 h4 => ⟨_, _, _, _, rfl, h1, h2, h3, h4⟩
  | .slice h1 h2 h3 h4 => ⟨_, _, _, _, rfl, h1, h2, h3, h4⟩
  | .range h1 => ⟨_, _, _, _, rfl, h1⟩
  | .set h1 h2 => ⟨_, _, rfl, h1, h2⟩
  | .items h1 h2 h3 h4 h5 => ⟨_, _, _, _, rfl, h1, h2, h3, h4, h5⟩
  | .vals h1 h2 h3 h4 h5 => ⟨_, _, _, _, rfl, h1, h2, h3, h4, h5⟩

section
variable {prog : Program} {w : World} {φ ψ : FM}
mutual
theorem Rd.mono (hs : ∀ b o, φ b = some o → ψ b = some o) {v : Value} {d : D} (h : Rd prog w φ v d) : Rd prog w ψ v d :=
  match h with
  | .none => .none
  | .bool b => .bool b
  | .int i t => .int i t
  | .str x t => .str x t
  | .tup h1 r => .tup (hs _ _ h1) (RdAll.mono hs r)
  | .tupg h1 h2 h3 r => .tupg (hs _ _ h1) h2 h3 (RdAll.mono hs r)
  | .list h1 r => .list (hs _ _ h1) (RdAll.mono hs r)
  | .dict h1 h2 h3 => .dict (hs _ _ h1) h2 h3
  | .keys h1 h2 r => .keys (hs _ _ h1) (hs _ _ h2) (Rd.mono hs r)
  | .ent h1 h2 r => .ent (hs _ _ h1) (hs _ _ h2) (Rd.mono hs r)
  | .raw h1 => .raw (hs _ _ h1)
  | .arg h1 h2 h3 h4 => .arg (hs _ _ h1) h2 h3 (RdAll.mono hs h4)
  | .slice h1 h2 h3 h4 => .slice (hs _ _ h1) h2 h3 h4
  | .range h1 => .range (hs _ _ h1)
  | .set h1 h2 => .set (hs _ _ h1) h2
  | .items h1 h2 h3 h4 h5 => .items (hs _ _ h1) h2 h3 (hs _ _ h4) h5
  | .vals h1 h2 h3 h4 h5 => .vals (hs _ _ h1) h2 h3 (hs _ _ h4) h5
theorem RdAll.mono (hs : ∀ b o, φ b = some o → ψ b = some o) {vs : List Value} {ds : List D} (h : RdAll prog w φ vs ds) : RdAll prog w ψ vs ds :=
  match h with
  | .nil => .nil
  | .cons h r => .cons (Rd.mono hs h) (RdAll.mono hs r)
end
theorem RdAll.nil_inv {vs : List Value} (h : RdAll prog w φ vs []) : vs = [] := by cases h; rfl
theorem RdAll.cons_inv {vs : List Value} {d : D} {ds : List D} (h : RdAll prog w φ vs (d :: ds)) : ∃ v us, vs = v :: us ∧ Rd prog w φ v d ∧ RdAll prog w φ us ds := by
  cases h with
  | cons h r => exact ⟨_, _, rfl, h, r⟩
theorem ints_are : ∀ {ns : List Int} {vs : List Value}, RdAll prog w φ vs (ns.map .int) → IntsAre vs ns
  | [], _, r => r.nil_inv ▸ .nil
  | n :: ns, _, r => by
    obtain ⟨v, us, rfl, h, r'⟩ := r.cons_inv
    obtain ⟨t, rfl⟩ := h.inv
    exact .cons n t (ints_are r')
theorem ints_val : ∀ {vs : List Value} {ns : List Int}, IntsAre vs ns → ns = vs.map valI
  | _, _, .nil => rfl
  | _, _, .cons n t r => by rw [List.map_cons, ← ints_val r]; rfl
theorem RdAll.length {vs : List Value} {ds : List D} (h : RdAll prog w φ vs ds) : vs.length = ds.length := by
  induction vs generalizing ds with
  | nil => cases h; rfl
  | cons v vs ih => cases h with | cons _ r => rw [List.length_cons, List.length_cons, ih r]
theorem RdAll.append {vs ws : List Value} {ds es : List D} (h : RdAll prog w φ vs ds) (k : RdAll prog w φ ws es) : RdAll prog w φ (vs ++ ws) (ds ++ es) := by
  induction vs generalizing ds with
  | nil => cases h; exact k
  | cons v vs ih => cases h with | cons h r => exact .cons h (ih r)
theorem RdAll.zip {vs : List Value} {ds : List D} (h : RdAll prog w φ vs ds) : ∀ p ∈ vs.zip ds, Rd prog w φ p.1 p.2 := by
  induction vs generalizing ds with
  | nil => cases h; intro p hp; cases hp
  | cons v vs ih =>
    cases h with
    | cons h r =>
      intro p hp
      rw [List.zip_cons_cons] at hp
      rcases List.mem_cons.mp hp with rfl | hp
      · exact h
      · exact ih r p hp
theorem RdAll.of_zip {vs : List Value} {ds : List D} (hl : vs.length = ds.length) (h : ∀ p ∈ vs.zip ds, Rd prog w φ p.1 p.2) : RdAll prog w φ vs ds := by
  induction vs generalizing ds with
  | nil => cases ds with | nil => exact .nil | cons _ _ => simp at hl
  | cons v vs ih =>
    cases ds with
    | nil => simp at hl
    | cons d ds => exact .cons (h (v, d) (by simp)) (ih (by simpa using hl) fun p hp => h p (by rw [List.zip_cons_cons]; exact .tail _ hp))
theorem RdAll.get {vs : List Value} {ds : List D} (h : RdAll prog w φ vs ds) {k : Nat} {d : D} (hk : ds[k]? = some d) : ∃ v, vs[k]? = some v ∧ Rd prog w φ v d := by
  induction vs generalizing ds k with
  | nil => cases h; simp at hk
  | cons v vs ih =>
    cases h with
    | cons h r =>
      cases k with
      | zero => simp only [List.getElem?_cons_zero, Option.some.injEq] at hk; subst hk; exact ⟨v, rfl, h⟩
      | succ k => exact ih r (by simpa using hk)
theorem RdAll.get' {vs : List Value} {ds : List D} (h : RdAll prog w φ vs ds) {k : Nat} {v : Value} (hk : vs[k]? = some v) : ∃ d, ds[k]? = some d ∧ Rd prog w φ v d := by
  induction vs generalizing ds k with
  | nil => simp at hk
  | cons v' vs ih =>
    cases h with
    | cons h r =>
      cases k with
      | zero => simp only [List.getElem?_cons_zero, Option.some.injEq] at hk; subst hk; exact ⟨_, rfl, h⟩
      | succ k => exact ih r (by simpa using hk)
end

/-! ## the state -/

inductive B where
  | val (d : D)
  | own (a : Addr)
abbrev Rho := Str → Option B
inductive OD where
  | list (ds : List D)
  | dict (kvs : List (Str × Int))
  | raw (o : Obj)

/-- the world under the law's call -/
structure Wo (prog : Program) (w : World) (H : Heap) (mg mb : Str → Option Value) : Prop where
  X : (hd.heap_1 w.params).In H
  g : H.Ns mainGlobals mg
  b : H.Ns builtinsNs mb
  bu : ∀ x : Str, x ≠ "__name__" → mb x = bootBuiltins x
  lim : H.NoLimit

structure Act where
  env : Env
  C : List (Str × Addr)
  Φ : FM
  h₀ : Heap

noncomputable def Keep (h h' : Heap) : Prop := ∀ b o, h.get? b = some o → h'.get? b = some o
theorem Keep.refl (h : Heap) : Keep h h := fun _ _ e => e
theorem Keep.trans {h h' h'' : Heap} (x : Keep h h') (y : Keep h' h'') : Keep h h'' := fun b o e => y b o (x b o e)
theorem Keep.push (h : Heap) (o : Obj) : Keep h (h.push o) := fun _ _ e => Heap.get?_push_of_some o e

section
variable (prog : Program) (w : World)
noncomputable def BIs (φ : FM) (v : Value) : B → Prop
  | .val d => Rd prog w φ v d
  | .own a => v = .ref a
noncomputable def OwnIs (φ : FM) (o : Obj) : OD → Prop
  | .list ds => ∃ vs n, o = listOf (List.toArray vs) n ∧ RdAll prog w φ vs ds
  | .dict kvs => DictObj prog w o kvs
  | .raw o' => o = o'
noncomputable def NameIs (env : Env) (m : Str → Option Value) (h : Heap) (φ : FM) (x : Str) (b : B) : Prop :=
  ∃ v, BIs prog w φ v b ∧ ((env.kindOf x = some .local ∧ m x = some v) ∨ ((env.kindOf x = some .cell ∨ env.kindOf x = some .free) ∧ ∃ c, env.cells.lookup x = some c ∧ h.IsCell c (some v)))
noncomputable def muts (a : Act) (O : List (Addr × OD)) : List Addr := a.env.locals :: (a.C.map (·.2) ++ O.map (·.1))

structure Core (H : Heap) (a : Act) (ρ : Rho) (O : List (Addr × OD)) (T : List (Value × D)) (φ : FM) (m : Str → Option Value) (h : Heap) : Prop where
  wb : Keep H a.h₀
  base : Keep a.h₀ h
  ext : ∀ b o, a.Φ b = some o → φ b = some o
  sub : ∀ b o, φ b = some o → h.get? b = some o
  new : ∀ b o, φ b = some o → a.Φ b = some o ∨ a.h₀.get? b = none
  ns : h.Ns a.env.locals m
  fn : a.env.scope.kind = .function
  gl : a.env.globals = mainGlobals
  bl : a.env.builtins = builtinsNs
  look : ∀ x c, a.env.cells.lookup x = some c → (x, c) ∈ a.C ∨ (a.h₀.get? c).isSome
  cells : ∀ p ∈ a.C, ∃ v, h.IsCell p.2 v
  own : ∀ p ∈ O, ∃ o, h.get? p.1 = some o ∧ OwnIs prog w φ o p.2
  nodup : (muts a O).Nodup
  mutd : ∀ b ∈ muts a O, φ b = none ∧ a.h₀.get? b = none
  names : ∀ x b, ρ x = some b → NameIs prog w a.env m h φ x b
  temps : ∀ p ∈ T, Rd prog w φ p.1 p.2

noncomputable def St (H : Heap) (a : Act) (ρ : Rho) (O : List (Addr × OD)) (T : List (Value × D)) (h : Heap) : Prop := ∃ φ m, Core prog w H a ρ O T φ m h
end

section
variable {prog : Program} {w : World} {H : Heap} {a : Act} {ρ ρ' : Rho} {O O' : List (Addr × OD)} {T T' : List (Value × D)} {φ ψ : FM} {m : Str → Option Value} {h h' : Heap}

theorem BIs.mono (hs : ∀ b o, φ b = some o → ψ b = some o) {v : Value} : ∀ {b : B}, BIs prog w φ v b → BIs prog w ψ v b
  | .val _, e => Rd.mono hs e
  | .own _, e => e
theorem OwnIs.mono (hs : ∀ b o, φ b = some o → ψ b = some o) {o : Obj} : ∀ {d : OD}, OwnIs prog w φ o d → OwnIs prog w ψ o d
  | .list _, ⟨vs, n, e, r⟩ => ⟨vs, n, e, RdAll.mono hs r⟩
  | .dict _, e => e
  | .raw _, e => e
theorem IsCell.keep {c : Addr} {v : Option Value} (x : h.IsCell c v) (e : ∀ o, h.get? c = some o → h'.get? c = some o) : h'.IsCell c v := let ⟨o, ho, r⟩ := x; ⟨o, e o ho, r⟩
theorem NameIs.keep {env : Env} {x : Str} {b : B} (hs : ∀ b o, φ b = some o → ψ b = some o) (hk : ∀ c, env.cells.lookup x = some c → ∀ o, h.get? c = some o → h'.get? c = some o) (e : NameIs prog w env m h φ x b) : NameIs prog w env m h' ψ x b := by
  obtain ⟨v, hb, q⟩ := e
  refine ⟨v, hb.mono hs, ?_⟩
  rcases q with q | ⟨q, c, hc, hi⟩
  · exact .inl q
  · exact .inr ⟨q, c, hc, IsCell.keep hi (hk c hc)⟩

theorem muts_alive (K : Core prog w H a ρ O T φ m h) : ∀ b ∈ muts a O, ∃ o, h.get? b = some o := by
  intro b hb
  unfold muts at hb
  rcases List.mem_cons.mp hb with rfl | hb
  · obtain ⟨o, _, _, ho, _⟩ := K.ns; exact ⟨o, ho⟩
  · rcases List.mem_append.mp hb with hb | hb
    · obtain ⟨p, hp, rfl⟩ := List.mem_map.mp hb
      obtain ⟨v, o, ho, _⟩ := K.cells p hp; exact ⟨o, ho⟩
    · obtain ⟨p, hp, rfl⟩ := List.mem_map.mp hb
      obtain ⟨o, ho, _⟩ := K.own p hp; exact ⟨o, ho⟩

/-- only new things -/
theorem Core.keep (K : Core prog w H a ρ O T φ m h) (hk : Keep h h') : Core prog w H a ρ O T φ m h' where
  wb := K.wb
  base := K.base.trans hk
  ext := K.ext
  sub := fun b o e => hk b o (K.sub b o e)
  new := K.new
  ns := let ⟨o, es, ep, ho, r⟩ := K.ns; ⟨o, es, ep, hk _ o ho, r⟩
  fn := K.fn
  gl := K.gl
  bl := K.bl
  look := K.look
  cells := fun p hp => let ⟨v, q⟩ := K.cells p hp; ⟨v, IsCell.keep q fun o e => hk _ o e⟩
  own := fun p hp => let ⟨o, ho, q⟩ := K.own p hp; ⟨o, hk _ o ho, q⟩
  nodup := K.nodup
  mutd := K.mutd
  names := fun x b e => (K.names x b e).keep (fun _ _ e => e) fun c _ o e => hk c o e
  temps := K.temps
theorem St.keep (K : St prog w H a ρ O T h) (hk : Keep h h') : St prog w H a ρ O T h' := let ⟨φ, m, q⟩ := K; ⟨φ, m, q.keep hk⟩

theorem St.sub (K : St prog w H a ρ O T h) (hT : ∀ p ∈ T', p ∈ T) : St prog w H a ρ O T' h := by
  obtain ⟨φ, m, q⟩ := K
  exact ⟨φ, m, { q with temps := fun p hp => q.temps p (hT p hp) }⟩
theorem St.forget (K : St prog w H a ρ O T h) (hr : ∀ x b, ρ' x = some b → ρ x = some b) : St prog w H a ρ' O T h := by
  obtain ⟨φ, m, q⟩ := K
  exact ⟨φ, m, { q with names := fun x b e => q.names x b (hr x b e) }⟩
theorem St.perm (K : St prog w H a ρ O T h) (hp : O'.Perm O) : St prog w H a ρ O' T h := by
  obtain ⟨φ, m, q⟩ := K
  have hm : (muts a O').Perm (muts a O) := by
    unfold muts
    exact List.Perm.cons _ (List.Perm.append_left _ (hp.map _))
  exact ⟨φ, m, { q with own := fun p hq => q.own p (hp.mem_iff.mp hq), nodup := hm.nodup_iff.mpr q.nodup, mutd := fun b hb => q.mutd b (hm.mem_iff.mp hb) }⟩
/-- an own object let go -/
theorem St.drop {p : Addr × OD} (K : St prog w H a ρ (p :: O) T h) : St prog w H a ρ O T h := by
  obtain ⟨φ, m, q⟩ := K
  have hm : ∀ b ∈ muts a O, b ∈ muts a (p :: O) := by
    intro b hb
    unfold muts at hb ⊢
    rcases List.mem_cons.mp hb with rfl | hb
    · exact .head _
    · refine .tail _ ?_
      rcases List.mem_append.mp hb with hb | hb
      · exact List.mem_append_left _ hb
      · exact List.mem_append_right _ (.tail _ hb)
  refine ⟨φ, m, { q with own := fun p hq => q.own p (.tail _ hq), nodup := ?_, mutd := fun b hb => q.mutd b (hm b hb) }⟩
  have hn := q.nodup
  unfold muts at hn ⊢
  rw [List.map_cons] at hn
  have hp : (a.env.locals :: (a.C.map (·.2) ++ p.1 :: O.map (·.1))).Perm (p.1 :: a.env.locals :: (a.C.map (·.2) ++ O.map (·.1))) :=
    (List.Perm.cons _ List.perm_middle).trans (List.Perm.swap _ _ _)
  exact (List.nodup_cons.mp (hp.nodup_iff.mp hn)).2

theorem Core.phi_free (K : Core prog w H a ρ O T φ m h) {b : Addr} (hb : h.get? b = none) : φ b = none := by
  cases e : φ b with
  | none => rfl
  | some o => rw [K.sub b o e] at hb; cases hb
theorem Core.base_free (K : Core prog w H a ρ O T φ m h) {b : Addr} (hb : h.get? b = none) : a.h₀.get? b = none := by
  cases e : a.h₀.get? b with
  | none => rfl
  | some o => rw [K.base b o e] at hb; cases hb

/-- new things, some of them frozen: F says which -/
theorem Core.alloc (K : Core prog w H a ρ O T φ m h) (hk : Keep h h') (F : FM) (hF : ∀ b o, F b = some o → h.get? b = none ∧ h'.get? b = some o) :
    Core prog w H a ρ O T (fun b => match F b with | some o => some o | none => φ b) m h' := by
  have K' := K.keep hk
  have hs : ∀ b o, φ b = some o → (fun b => match F b with | some o => some o | none => φ b) b = some o := by
    intro b o e
    dsimp only
    cases hf : F b with
    | none => exact e
    | some o' => rw [K.phi_free (hF b o' hf).1] at e; cases e
  refine { K' with ext := fun b o e => hs b o (K.ext b o e), sub := ?_, new := ?_, own := ?_, mutd := ?_, names := ?_, temps := ?_ }
  · intro b o e
    skip
    cases hf : F b with
    | none => rw [hf] at e; exact K'.sub b o e
    | some o' => rw [hf] at e; cases e; exact (hF b _ hf).2
  · intro b o e
    skip
    cases hf : F b with
    | none => rw [hf] at e; exact K'.new b o e
    | some o' => exact .inr (K.base_free (hF b _ hf).1)
  · intro p hp
    obtain ⟨o, ho, q⟩ := K'.own p hp
    exact ⟨o, ho, q.mono hs⟩
  · intro b hb
    refine ⟨?_, (K.mutd b hb).2⟩
    skip
    cases hf : F b with
    | none => exact (K.mutd b hb).1
    | some o' =>
      obtain ⟨o, ho⟩ := muts_alive K b hb
      rw [(hF b _ hf).1] at ho; cases ho
  · intro x b e
    exact (K'.names x b e).keep hs fun _ _ _ e => e
  · intro p hp
    exact (K.temps p hp).mono hs

/-- one new thing, frozen -/
theorem St.alloc {n : Addr} {o : Obj} {d : D} (K : St prog w H a ρ O T h) (hk : Keep h h') (hn : h.get? n = none) (ho : h'.get? n = some o)
    (hd : ∀ φ : FM, (∀ p ∈ T, Rd prog w φ p.1 p.2) → φ n = some o → Rd prog w φ (.ref n) d) : St prog w H a ρ O ((.ref n, d) :: T) h' := by
  obtain ⟨φ, m, q⟩ := K
  have q' := q.alloc hk (fun b => if b = n then some o else none) (by intro b o' e; split at e <;> cases e; rename_i hb; subst hb; exact ⟨hn, ho⟩)
  refine ⟨_, m, { q' with temps := ?_ }⟩
  intro p hp
  rcases List.mem_cons.mp hp with rfl | hp
  · exact hd _ q'.temps (by simp)
  · exact q'.temps p hp
/-- one new thing, own -/
theorem St.mine {n : Addr} {o : Obj} {d : OD} (K : St prog w H a ρ O T h) (hk : Keep h h') (hn : h.get? n = none) (ho : h'.get? n = some o)
    (hd : ∀ φ : FM, (∀ p ∈ T, Rd prog w φ p.1 p.2) → OwnIs prog w φ o d) : St prog w H a ρ ((n, d) :: O) T h' := by
  obtain ⟨φ, m, q⟩ := K
  have q' := q.keep hk
  have hnm : n ∉ muts a O := fun hm => by obtain ⟨o', e⟩ := muts_alive q n hm; rw [hn] at e; cases e
  have hp : (muts a ((n, d) :: O)).Perm (n :: muts a O) := by
    unfold muts
    exact (List.Perm.cons _ List.perm_middle).trans (List.Perm.swap _ _ _)
  refine ⟨φ, m, { q' with own := ?_, nodup := hp.nodup_iff.mpr (List.nodup_cons.mpr ⟨hnm, q.nodup⟩), mutd := ?_ }⟩
  · intro p hp
    rcases List.mem_cons.mp hp with rfl | hp
    · exact ⟨o, ho, hd φ q.temps⟩
    · exact q'.own p hp
  · intro b hb
    rcases List.mem_cons.mp (hp.mem_iff.mp hb) with rfl | hb
    · exact ⟨q.phi_free hn, q.base_free hn⟩
    · exact q.mutd b hb

/-- the own object at the head is changed -/
theorem St.set {n : Addr} {o : Obj} {d d' : OD} (K : St prog w H a ρ ((n, d) :: O) T h) (hk : Heap.SameBut n h h') (ho : h'.get? n = some o)
    (hd : ∀ φ : FM, (∀ p ∈ T, Rd prog w φ p.1 p.2) → (∃ o, h.get? n = some o ∧ OwnIs prog w φ o d) → OwnIs prog w φ o d') : St prog w H a ρ ((n, d') :: O) T h' := by
  obtain ⟨φ, m, q⟩ := K
  have hp : ∀ d, (muts a ((n, d) :: O)).Perm (n :: muts a O) := fun d => by
    unfold muts
    exact (List.Perm.cons _ List.perm_middle).trans (List.Perm.swap _ _ _)
  have hnn := q.mutd n ((hp d).mem_iff.mpr (.head _))
  have hnd := List.nodup_cons.mp ((hp d).nodup_iff.mp q.nodup)
  have hne : ∀ b ∈ muts a O, b ≠ n := fun b hb e => hnd.1 (e ▸ hb)
  have kp : ∀ b, b ≠ n → ∀ o, h.get? b = some o → h'.get? b = some o := fun b hb o e => (hk.2 b hb).trans e
  have kh : ∀ b, (a.h₀.get? b).isSome → b ≠ n := fun b hb e => by rw [e, hnn.2] at hb; cases hb
  have kl : a.env.locals ≠ n := hne _ (.head _)
  have kc : ∀ p ∈ a.C, p.2 ≠ n := fun p hp => hne _ (.tail _ (List.mem_append_left _ (List.mem_map_of_mem hp)))
  refine ⟨φ, m, { q with base := ?_, sub := ?_, ns := ?_, cells := ?_, own := ?_, nodup := (hp d').nodup_iff.mpr (List.nodup_cons.mpr hnd), mutd := ?_, names := ?_ }⟩
  · intro b o e
    exact kp b (kh b (by rw [e]; rfl)) o (q.base b o e)
  · intro b o e
    exact kp b (fun e' => by rw [e', hnn.1] at e; cases e) o (q.sub b o e)
  · obtain ⟨o, es, ep, ho, r⟩ := q.ns
    exact ⟨o, es, ep, kp _ kl _ ho, r⟩
  · intro p hp
    obtain ⟨v, r⟩ := q.cells p hp
    exact ⟨v, IsCell.keep r (kp _ (kc p hp))⟩
  · intro p hp
    rcases List.mem_cons.mp hp with rfl | hp
    · exact ⟨o, ho, hd φ q.temps (q.own _ (.head _))⟩
    · obtain ⟨o, ho, r⟩ := q.own p (.tail _ hp)
      exact ⟨o, kp _ (hne _ (.tail _ (List.mem_append_right _ (List.mem_map_of_mem hp)))) o ho, r⟩
  · intro b hb
    exact q.mutd b ((hp d).mem_iff.mpr ((hp d').mem_iff.mp hb))
  · intro x b e
    refine (q.names x b e).keep (fun _ _ e => e) fun c hc o e => kp c ?_ o e
    rcases q.look x c hc with hc | hc
    · exact kc _ hc
    · exact kh c hc
end
end Mine

namespace Mine

section
variable {prog : Program} {w : World} {H : Heap} {a : Act} {ρ ρ' : Rho} {O O' Ow Ow' Oz : List (Addr × OD)} {T T' Tn : List (Value × D)} {φ ψ : FM} {m : Str → Option Value} {h h' : Heap}

theorem muts_append : (muts a (Ow ++ Oz)).Perm (Ow.map (·.1) ++ muts a Oz) := by
  unfold muts
  rw [List.map_append]
  have h1 : (a.C.map (·.2) ++ (Ow.map (·.1) ++ Oz.map (·.1))).Perm (Ow.map (·.1) ++ (a.C.map (·.2) ++ Oz.map (·.1))) := by
    rw [← List.append_assoc, ← List.append_assoc]
    exact List.Perm.append_right _ List.perm_append_comm
  exact (List.Perm.cons _ h1).trans List.perm_middle.symm

/-- the general step: own objects (the first ones) changed, new things made, F of them frozen -/
theorem St.step (K : St prog w H a ρ (Ow ++ Oz) T h) (hm : Ow'.map (·.1) = Ow.map (·.1))
    (hk : ∀ b o, b ∉ Ow.map (·.1) → h.get? b = some o → h'.get? b = some o) (F : FM) (hF : ∀ b o, F b = some o → h.get? b = none ∧ h'.get? b = some o)
    (hown : ∀ φ' : FM, (∀ p ∈ T, Rd prog w φ' p.1 p.2) → (∀ b o, F b = some o → φ' b = some o) → (∀ p ∈ Ow, ∃ o, h.get? p.1 = some o ∧ OwnIs prog w φ' o p.2) → ∀ p ∈ Ow', ∃ o, h'.get? p.1 = some o ∧ OwnIs prog w φ' o p.2)
    (hT : ∀ φ' : FM, (∀ p ∈ T, Rd prog w φ' p.1 p.2) → (∀ b o, F b = some o → φ' b = some o) → (∀ p ∈ Ow, ∃ o, h.get? p.1 = some o ∧ OwnIs prog w φ' o p.2) → ∀ p ∈ Tn, Rd prog w φ' p.1 p.2) :
    St prog w H a ρ (Ow' ++ Oz) (Tn ++ T) h' := by
  obtain ⟨φ, m, q⟩ := K
  have hp := muts_append (a := a) (Ow := Ow) (Oz := Oz)
  have hp' : (muts a (Ow' ++ Oz)).Perm (Ow.map (·.1) ++ muts a Oz) := hm ▸ muts_append (a := a) (Ow := Ow') (Oz := Oz)
  have hnd := List.nodup_append.mp (hp.nodup_iff.mp q.nodup)
  have hne : ∀ b ∈ muts a Oz, b ∉ Ow.map (·.1) := fun b hb hc => hnd.2.2 b hc b hb rfl
  have hw : ∀ b ∈ Ow.map (·.1), φ b = none ∧ a.h₀.get? b = none := fun b hb => q.mutd b (hp.mem_iff.mpr (List.mem_append_left _ hb))
  have kh : ∀ b, (a.h₀.get? b).isSome → b ∉ Ow.map (·.1) := fun b hb hc => by rw [(hw b hc).2] at hb; cases hb
  have kl : a.env.locals ∉ Ow.map (·.1) := hne _ (.head _)
  have kc : ∀ p ∈ a.C, p.2 ∉ Ow.map (·.1) := fun p hp => hne _ (.tail _ (List.mem_append_left _ (List.mem_map_of_mem hp)))
  have alive := muts_alive q
  let φ' : FM := fun b => match F b with | some o => some o | none => φ b
  have hs : ∀ b o, φ b = some o → φ' b = some o := by
    intro b o e
    show (match F b with | some o => some o | none => φ b) = some o
    cases hf : F b with
    | none => exact e
    | some o' => rw [q.phi_free (hF b o' hf).1] at e; cases e
  have hFφ : ∀ b o, F b = some o → φ' b = some o := by
    intro b o e
    show (match F b with | some o => some o | none => φ b) = some o
    rw [e]
  have hinv : ∀ b o, φ' b = some o → F b = some o ∨ φ b = some o := by
    intro b o e
    have e' : (match F b with | some o => some o | none => φ b) = some o := e
    cases hf : F b with
    | none => rw [hf] at e'; exact .inr e'
    | some o' => rw [hf] at e'; exact .inl e'
  have hT0 : ∀ p ∈ T, Rd prog w φ' p.1 p.2 := fun p hp => (q.temps p hp).mono hs
  have hO0 : ∀ p ∈ Ow, ∃ o, h.get? p.1 = some o ∧ OwnIs prog w φ' o p.2 := fun p hp => by
    obtain ⟨o, ho, r⟩ := q.own p (List.mem_append_left _ hp)
    exact ⟨o, ho, r.mono hs⟩
  refine ⟨φ', m, { q with base := ?_, ext := fun b o e => hs b o (q.ext b o e), sub := ?_, new := ?_, ns := ?_, cells := ?_, own := ?_, nodup := hp'.nodup_iff.mpr (hp.nodup_iff.mp q.nodup), mutd := ?_, names := ?_, temps := ?_ }⟩
  · intro b o e
    exact hk b o (kh b (by rw [e]; rfl)) (q.base b o e)
  · intro b o e
    rcases hinv b o e with e | e
    · exact (hF b o e).2
    · exact hk b o (fun hc => by rw [(hw b hc).1] at e; cases e) (q.sub b o e)
  · intro b o e
    rcases hinv b o e with e | e
    · exact .inr (q.base_free (hF b o e).1)
    · exact q.new b o e
  · obtain ⟨o, es, ep, ho, r⟩ := q.ns
    exact ⟨o, es, ep, hk _ _ kl ho, r⟩
  · intro p hp
    obtain ⟨v, r⟩ := q.cells p hp
    exact ⟨v, IsCell.keep r (fun o => hk _ o (kc p hp))⟩
  · intro p hp
    rcases List.mem_append.mp hp with hp | hp
    · exact hown φ' hT0 hFφ hO0 p hp
    · obtain ⟨o, ho, r⟩ := q.own p (List.mem_append_right _ hp)
      exact ⟨o, hk _ o (hne _ (.tail _ (List.mem_append_right _ (List.mem_map_of_mem hp)))) ho, r.mono hs⟩
  · intro b hb
    have hb' := hp.mem_iff.mpr (hp'.mem_iff.mp hb)
    refine ⟨?_, (q.mutd b hb').2⟩
    show (match F b with | some o => some o | none => φ b) = none
    cases hf : F b with
    | none => exact (q.mutd b hb').1
    | some o' =>
      obtain ⟨o, ho⟩ := alive b hb'
      rw [(hF b _ hf).1] at ho; cases ho
  · intro x b e
    refine (q.names x b e).keep hs fun c hc o e => hk c o ?_ e
    rcases q.look x c hc with hc | hc
    · exact kc _ hc
    · exact kh c hc
  · intro p hp
    rcases List.mem_append.mp hp with hp | hp
    · exact hT φ' hT0 hFφ hO0 p hp
    · exact hT0 p hp

/-- an own list let be -/
theorem St.freeze {n : Addr} {ds : List D} (K : St prog w H a ρ ((n, .list ds) :: O) T h) : St prog w H a ρ O ((.ref n, .list ds) :: T) h := by
  obtain ⟨φ, m, q⟩ := K
  obtain ⟨o, ho, vs, k, rfl, hr⟩ := q.own _ (.head _)
  have hp : (muts a ((n, OD.list ds) :: O)).Perm (n :: muts a O) := muts_append (a := a) (Ow := [(n, OD.list ds)]) (Oz := O)
  have hn := q.mutd n (hp.mem_iff.mpr (.head _))
  have hnd := List.nodup_cons.mp (hp.nodup_iff.mp q.nodup)
  let φ' : FM := fun b => if b = n then some (listOf (List.toArray vs) k) else φ b
  have hs : ∀ b o, φ b = some o → φ' b = some o := by
    intro b o' e
    show (if b = n then some (listOf (List.toArray vs) k) else φ b) = some o'
    by_cases hb : b = n
    · rw [hb, hn.1] at e; cases e
    · rw [if_neg hb]; exact e
  refine ⟨φ', m, { q with ext := fun b o e => hs b o (q.ext b o e), sub := ?_, new := ?_, own := ?_, nodup := hnd.2, mutd := ?_, names := ?_, temps := ?_ }⟩
  · intro b o' e
    have e' : (if b = n then some (listOf (List.toArray vs) k) else φ b) = some o' := e
    by_cases hb : b = n
    · rw [if_pos hb] at e'; cases e'; rw [hb]; exact ho
    · rw [if_neg hb] at e'; exact q.sub b o' e'
  · intro b o' e
    have e' : (if b = n then some (listOf (List.toArray vs) k) else φ b) = some o' := e
    by_cases hb : b = n
    · rw [hb]; exact .inr hn.2
    · rw [if_neg hb] at e'; exact q.new b o' e'
  · intro p hp
    obtain ⟨o, ho, r⟩ := q.own p (.tail _ hp)
    exact ⟨o, ho, r.mono hs⟩
  · intro b hb
    have := q.mutd b (hp.mem_iff.mpr (.tail _ hb))
    refine ⟨?_, this.2⟩
    show (if b = n then some (listOf (List.toArray vs) k) else φ b) = none
    rw [if_neg (fun e : b = n => hnd.1 (e ▸ hb))]; exact this.1
  · intro x b e
    exact (q.names x b e).keep hs fun _ _ _ e => e
  · intro p hp
    rcases List.mem_cons.mp hp with rfl | hp
    · exact .list (show (if n = n then some (listOf (List.toArray vs) k) else φ n) = some (listOf (List.toArray vs) k) by rw [if_pos rfl]) (hr.mono hs)
    · exact (q.temps p hp).mono hs
theorem St.freezeD {n : Addr} {kvs : List (Str × Int)} (K : St prog w H a ρ ((n, .dict kvs) :: O) T h) (hS : (n == sysModules) = false) : St prog w H a ρ O ((.ref n, .dict kvs) :: T) h := by
  obtain ⟨φ, m, q⟩ := K
  obtain ⟨o, ho, hr⟩ := q.own _ (.head _)
  have hp : (muts a ((n, OD.dict kvs) :: O)).Perm (n :: muts a O) := muts_append (a := a) (Ow := [(n, OD.dict kvs)]) (Oz := O)
  have hn := q.mutd n (hp.mem_iff.mpr (.head _))
  have hnd := List.nodup_cons.mp (hp.nodup_iff.mp q.nodup)
  let φ' : FM := fun b => if b = n then some o else φ b
  have hs : ∀ b o, φ b = some o → φ' b = some o := by
    intro b o' e
    show (if b = n then some o else φ b) = some o'
    by_cases hb : b = n
    · rw [hb, hn.1] at e; cases e
    · rw [if_neg hb]; exact e
  refine ⟨φ', m, { q with ext := fun b o e => hs b o (q.ext b o e), sub := ?_, new := ?_, own := ?_, nodup := hnd.2, mutd := ?_, names := ?_, temps := ?_ }⟩
  · intro b o' e
    have e' : (if b = n then some o else φ b) = some o' := e
    by_cases hb : b = n
    · rw [if_pos hb] at e'; cases e'; rw [hb]; exact ho
    · rw [if_neg hb] at e'; exact q.sub b o' e'
  · intro b o' e
    have e' : (if b = n then some o else φ b) = some o' := e
    by_cases hb : b = n
    · rw [hb]; exact .inr hn.2
    · rw [if_neg hb] at e'; exact q.new b o' e'
  · intro p hp
    obtain ⟨o, ho, r⟩ := q.own p (.tail _ hp)
    exact ⟨o, ho, r.mono hs⟩
  · intro b hb
    have := q.mutd b (hp.mem_iff.mpr (.tail _ hb))
    refine ⟨?_, this.2⟩
    show (if b = n then some o else φ b) = none
    rw [if_neg (fun e : b = n => hnd.1 (e ▸ hb))]; exact this.1
  · intro x b e
    exact (q.names x b e).keep hs fun _ _ _ e => e
  · intro p hp
    rcases List.mem_cons.mp hp with rfl | hp
    · exact .dict (show (if n = n then some o else φ n) = some o by rw [if_pos rfl]) hr hS
    · exact (q.temps p hp).mono hs

noncomputable def upd (ρ : Rho) (x : Str) (b : B) : Rho := fun y => if y = x then some b else ρ y

/-- a name bound to an own object that is a datum by now -/
theorem St.rebind {n : Addr} {x : Str} {d : D} (K : St prog w H a ρ O T h) (hx : ρ x = some (.own n)) (hd : (.ref n, d) ∈ T) : St prog w H a (upd ρ x (.val d)) O T h := by
  obtain ⟨φ, m, q⟩ := K
  refine ⟨φ, m, { q with names := ?_ }⟩
  intro y b e
  unfold upd at e
  by_cases hy : y = x
  · rw [if_pos hy] at e; cases e
    subst hy
    obtain ⟨v, hv, r⟩ := q.names y _ hx
    exact ⟨v, by rw [show v = .ref n from hv]; exact q.temps _ hd, r⟩
  · rw [if_neg hy] at e; exact q.names y b e

/-! reading -/
theorem St.int {v : Value} {i : Int} (K : St prog w H a ρ O T h) (hm : (v, .int i) ∈ T) : ∃ t, v = .int i t := by
  obtain ⟨φ, m, q⟩ := K
  exact (q.temps _ hm).inv
theorem St.str {v : Value} {x : Str} (K : St prog w H a ρ O T h) (hm : (v, .str x) ∈ T) : ∃ t, v = .str x t := by
  obtain ⟨φ, m, q⟩ := K
  exact (q.temps _ hm).inv
theorem St.bool {v : Value} {b : Bool} (K : St prog w H a ρ O T h) (hm : (v, .bool b) ∈ T) : v = .bool b := by
  obtain ⟨φ, m, q⟩ := K
  exact (q.temps _ hm).inv
theorem St.noneV {v : Value} (K : St prog w H a ρ O T h) (hm : (v, .none) ∈ T) : v = .none := by
  obtain ⟨φ, m, q⟩ := K
  exact (q.temps _ hm).inv
theorem St.raw {v : Value} {o : Obj} (K : St prog w H a ρ O T h) (hm : (v, .raw o) ∈ T) : ∃ n, v = .ref n ∧ h.get? n = some o := by
  obtain ⟨φ, m, q⟩ := K
  have := q.temps _ hm
  obtain ⟨_, rfl, e⟩ := this.inv
  exact ⟨_, rfl, q.sub _ _ e⟩
theorem St.list {v : Value} {ds : List D} (K : St prog w H a ρ O T h) (hm : (v, .list ds) ∈ T) :
    ∃ n vs, v = .ref n ∧ h.PlainList n (List.toArray vs) ∧ vs.length = ds.length ∧ St prog w H a ρ O (vs.zip ds ++ T) h := by
  obtain ⟨φ, m, q⟩ := K
  have := q.temps _ hm
  obtain ⟨_, _, _, rfl, h1, r⟩ := this.inv
  · refine ⟨_, _, rfl, ⟨_, q.sub _ _ h1⟩, r.length, φ, m, { q with temps := ?_ }⟩
    intro p hp
    rcases List.mem_append.mp hp with hp | hp
    · exact r.zip p hp
    · exact q.temps p hp
theorem St.tup {v : Value} {ds : List D} (K : St prog w H a ρ O T h) (hm : (v, .tup ds) ∈ T) :
    ∃ n vs k, v = .ref n ∧ h.get? n = some { cls := .type "tuple", data := .seq (List.toArray vs) k } ∧ vs.length = ds.length ∧ St prog w H a ρ O (vs.zip ds ++ T) h := by
  obtain ⟨φ, m, q⟩ := K
  have := q.temps _ hm
  obtain ⟨_, _, _, rfl, h1, r⟩ := this.inv
  · refine ⟨_, _, _, rfl, q.sub _ _ h1, r.length, φ, m, { q with temps := ?_ }⟩
    intro p hp
    rcases List.mem_append.mp hp with hp | hp
    · exact r.zip p hp
    · exact q.temps p hp
theorem St.tupg {v : Value} {ds : List D} (K : St prog w H a ρ O T h) (hm : (v, .tupg ds) ∈ T) :
    ∃ n vs, v = .ref n ∧ h.IsTuple n (List.toArray vs) ∧ vs.length = ds.length ∧ St prog w H a ρ O (vs.zip ds ++ T) h := by
  obtain ⟨φ, m, q⟩ := K
  have := q.temps _ hm
  obtain ⟨_, _, _, _, rfl, h1, h2, h3, r⟩ := this.inv
  · refine ⟨_, _, rfl, ⟨_, q.sub _ _ h1, h2, _, h3⟩, r.length, φ, m, { q with temps := ?_ }⟩
    intro p hp
    rcases List.mem_append.mp hp with hp | hp
    · exact r.zip p hp
    · exact q.temps p hp
theorem St.dict {v : Value} {kvs : List (Str × Int)} (K : St prog w H a ρ O T h) (hm : (v, .dict kvs) ∈ T) :
    ∃ n kv, v = .ref n ∧ (n == sysModules) = false ∧ h.DictOf (strKind prog w) n kv ∧ kv.map tv = kvs.map fun p => (p.1, some p.2) := by
  obtain ⟨φ, m, q⟩ := K
  have := q.temps _ hm
  obtain ⟨_, _, rfl, h1, h2, h3⟩ := this.inv
  · obtain ⟨kv, hk, e⟩ := h2
    exact ⟨_, kv, rfl, h3, Heap.dictOf_iff.mpr ⟨_, q.sub _ _ h1, hk⟩, e⟩
theorem St.add {p : Value × D} (K : St prog w H a ρ O T h) (hp : ∀ φ : FM, (∀ p ∈ T, Rd prog w φ p.1 p.2) → Rd prog w φ p.1 p.2) : St prog w H a ρ O (p :: T) h := by
  obtain ⟨φ, m, q⟩ := K
  refine ⟨φ, m, { q with temps := ?_ }⟩
  intro p' hp'
  rcases List.mem_cons.mp hp' with rfl | hp'
  · exact hp φ q.temps
  · exact q.temps p' hp'
theorem St.addInt {i : Int} {t : Tok} (K : St prog w H a ρ O T h) : St prog w H a ρ O ((.int i t, .int i) :: T) h := K.add fun _ _ => .int i t
theorem St.addStr {x : Str} {t : Tok} (K : St prog w H a ρ O T h) : St prog w H a ρ O ((.str x t, .str x) :: T) h := K.add fun _ _ => .str x t
theorem St.addBool {b : Bool} (K : St prog w H a ρ O T h) : St prog w H a ρ O ((.bool b, .bool b) :: T) h := K.add fun _ _ => .bool b
theorem St.addNone (K : St prog w H a ρ O T h) : St prog w H a ρ O ((.none, .none) :: T) h := K.add fun _ _ => .none

/-- storing a name -/
noncomputable def Storable (a : Act) (x : Str) : Prop := a.env.kindOf x = some .local ∨ (a.env.kindOf x = some .cell ∧ ∃ c, a.env.cells.lookup x = some c ∧ (x, c) ∈ a.C)

theorem cell_name {C : List (Str × Addr)} (hn : (C.map (·.2)).Nodup) {x y : Str} {c : Addr} (hx : (x, c) ∈ C) (hy : (y, c) ∈ C) : y = x := by
  induction C with
  | nil => cases hx
  | cons p C ih =>
    rw [List.map_cons] at hn
    have hn' := List.nodup_cons.mp hn
    rcases List.mem_cons.mp hx with e | hx' <;> rcases List.mem_cons.mp hy with e' | hy'
    · rw [← e] at e'; exact (Prod.mk.inj e').1
    · exact absurd (List.mem_map_of_mem (f := (·.2)) hy') (by rw [← e] at hn'; exact hn'.1)
    · exact absurd (List.mem_map_of_mem (f := (·.2)) hx') (by rw [← e'] at hn'; exact hn'.1)
    · exact ih hn'.2 hx' hy'

theorem storeB {A : Around} {E : Value → Shared → Prop} {s : Shared} {x : Str} {v : Value} {b : B} {Q : Unit → Shared → Prop} (K : St prog w H a ρ O T s.heap) (hs : Storable a x)
    (hb : ∀ φ : FM, (∀ p ∈ T, Rd prog w φ p.1 p.2) → BIs prog w φ v b) (h : ∀ h' tk, St prog w H a (upd ρ x b) O T h' → Q () { s with heap := h', toks := tk }) :
    wpAny (model prog w) A (storeName a.env x v) Q E s := by
  obtain ⟨φ, m, q⟩ := K
  have hL : a.env.locals ∈ muts a O := .head _
  rcases hs with hl | ⟨hc, c, hcl, hcm⟩
  · refine wpAny_storeName_local hl q.ns (fun h' hn hs => ?_) (by rw [q.fn]; rfl)
    have hmL := q.mutd _ hL
    have kp : ∀ b, b ≠ a.env.locals → ∀ o, s.heap.get? b = some o → h'.get? b = some o := fun b hb o e => (hs.2 b hb).trans e
    have kh : ∀ b, (a.h₀.get? b).isSome → b ≠ a.env.locals := fun b hb e => by rw [e, hmL.2] at hb; cases hb
    have hnd := List.nodup_cons.mp q.nodup
    have kc : ∀ p ∈ a.C, p.2 ≠ a.env.locals := fun p hp e => hnd.1 (e ▸ List.mem_append_left _ (List.mem_map_of_mem hp))
    refine h h' _ ⟨φ, _, { q with base := ?_, sub := ?_, ns := hn, cells := ?_, own := ?_, names := ?_ }⟩
    · intro b o e; exact kp b (kh b (by rw [e]; rfl)) o (q.base b o e)
    · intro b o e; exact kp b (fun e' => by rw [e', hmL.1] at e; cases e) o (q.sub b o e)
    · intro p hp
      obtain ⟨v, r⟩ := q.cells p hp
      exact ⟨v, IsCell.keep r (kp _ (kc p hp))⟩
    · intro p hp
      obtain ⟨o, ho, r⟩ := q.own p hp
      exact ⟨o, kp _ (fun e => hnd.1 (e ▸ List.mem_append_right _ (List.mem_map_of_mem hp))) o ho, r⟩
    · intro y b' e
      unfold upd at e
      by_cases hy : y = x
      · rw [if_pos hy] at e; cases e
        subst hy
        exact ⟨v, hb φ q.temps, .inl ⟨hl, if_pos rfl⟩⟩
      · rw [if_neg hy] at e
        obtain ⟨u, hu, r⟩ := q.names y b' e
        refine ⟨u, hu, ?_⟩
        rcases r with r | ⟨r, c, hc, hi⟩
        · exact .inl ⟨r.1, by dsimp only; rw [if_neg hy]; exact r.2⟩
        · refine .inr ⟨r, c, hc, IsCell.keep hi (kp c ?_)⟩
          rcases q.look y c hc with hc | hc
          · exact kc _ hc
          · exact kh c hc
  · obtain ⟨v₀, hv₀⟩ := q.cells _ hcm
    refine wpAny_storeName_cell q.fn hc hcl hv₀ fun h' hi hs => ?_
    have hmem : c ∈ muts a O := .tail _ (List.mem_append_left _ (List.mem_map_of_mem hcm))
    have hmL := q.mutd _ hmem
    have kp : ∀ b, b ≠ c → ∀ o, s.heap.get? b = some o → h'.get? b = some o := fun b hb o e => (hs.2 b hb).trans e
    have kh : ∀ b, (a.h₀.get? b).isSome → b ≠ c := fun b hb e => by rw [e, hmL.2] at hb; cases hb
    have hnd := List.nodup_cons.mp q.nodup
    have hnd2 := List.nodup_append.mp hnd.2
    have kl : a.env.locals ≠ c := fun e => hnd.1 (e ▸ List.mem_append_left _ (List.mem_map_of_mem hcm))
    refine h h' _ ⟨φ, m, { q with base := ?_, sub := ?_, ns := ?_, cells := ?_, own := ?_, names := ?_ }⟩
    · intro b o e; exact kp b (kh b (by rw [e]; rfl)) o (q.base b o e)
    · intro b o e; exact kp b (fun e' => by rw [e', hmL.1] at e; cases e) o (q.sub b o e)
    · obtain ⟨o, es, ep, ho, r⟩ := q.ns
      exact ⟨o, es, ep, kp _ kl _ ho, r⟩
    · intro p hp
      by_cases hpc : p.2 = c
      · exact ⟨_, hpc ▸ hi⟩
      · obtain ⟨v, r⟩ := q.cells p hp
        exact ⟨v, IsCell.keep r (kp _ hpc)⟩
    · intro p hp
      obtain ⟨o, ho, r⟩ := q.own p hp
      exact ⟨o, kp _ (fun e => hnd2.2.2 c (List.mem_map_of_mem hcm) _ (List.mem_map_of_mem hp) e.symm) o ho, r⟩
    · intro y b' e
      unfold upd at e
      by_cases hy : y = x
      · rw [if_pos hy] at e; cases e
        subst hy
        exact ⟨v, hb φ q.temps, .inr ⟨.inl hc, c, hcl, hi⟩⟩
      · rw [if_neg hy] at e
        obtain ⟨u, hu, r⟩ := q.names y b' e
        refine ⟨u, hu, ?_⟩
        rcases r with r | ⟨r, c', hc', hi'⟩
        · exact .inl r
        · refine .inr ⟨r, c', hc', IsCell.keep hi' (kp c' ?_)⟩
          rcases q.look y c' hc' with hq | hq
          · rintro rfl
            exact hy (cell_name hnd2.1 hcm hq)
          · exact kh c' hq

/-- loading a name -/
theorem loadB {A : Around} {E : Value → Shared → Prop} {s : Shared} {x : Str} {b : B} {Q : Value → Shared → Prop} (K : St prog w H a ρ O T s.heap) (hx : ρ x = some b)
    (hn : (x == ("__classdict__" : Str)) = false) (h : ∀ v, (∀ d, b = .val d → St prog w H a ρ O ((v, d) :: T) s.heap) → (∀ n, b = .own n → v = .ref n) → Q v s) : wpAny (model prog w) A (loadName a.env x) Q E s := by
  obtain ⟨φ, m, q⟩ := K
  obtain ⟨v, hv, r⟩ := q.names x b hx
  have hq : Q v s := by
    refine h v (fun d e => ?_) fun n e => by subst e; exact hv
    subst e
    refine ⟨φ, m, { q with temps := ?_ }⟩
    intro p hp
    rcases List.mem_cons.mp hp with rfl | hp
    · exact hv
    · exact q.temps p hp
  rcases r with ⟨r, hm⟩ | ⟨r | r, c, hc, hi⟩
  · exact wpAny_loadName_local q.fn r q.ns hm hq
  · exact wpAny_loadName_cell q.fn r hc hi hq
  · exact wpAny_loadName_free q.fn r hc hi hq hn
end
end Mine

namespace Mine

/-- from a heap with P the tree comes back, with Q -/
noncomputable def Tr {α : Type} (prog : Program) (w : World) (A : Around) (t : Sem α) (P : Heap → Prop) (Q : α → Heap → Prop) : Prop :=
  ∀ s : Shared, P s.heap → wpAny (model prog w) A t (fun v s' => ∃ h' tk, s' = { s with heap := h', toks := tk } ∧ Q v h') (fun _ _ => False) s

section
variable {prog : Program} {w : World} {H : Heap} {A : Around} {a : Act} {ρ ρ' : Rho} {O O' Ow Ow' Oz : List (Addr × OD)} {T T' Tn : List (Value × D)} {α β : Type}

theorem Tr.use {t : Sem α} {P : Heap → Prop} {Q : α → Heap → Prop} {R : α → Shared → Prop} {E : Value → Shared → Prop} {s : Shared} (x : Tr prog w A t P Q) (p : P s.heap)
    (h : ∀ v h' tk, Q v h' → R v { s with heap := h', toks := tk }) : wpAny (model prog w) A t R E s :=
  wpAny_mono (x s p) (fun v s' e => by obtain ⟨h', tk, rfl, q⟩ := e; exact h v h' tk q) fun _ _ e => e.elim
theorem Tr.mono {t : Sem α} {P P' : Heap → Prop} {Q Q' : α → Heap → Prop} (x : Tr prog w A t P Q) (hp : ∀ h, P' h → P h) (hq : ∀ v h, Q v h → Q' v h) : Tr prog w A t P' Q' :=
  fun s p => x.use (hp _ p) fun v h' tk q => ⟨h', tk, rfl, hq v h' q⟩
theorem Tr.pre {t : Sem α} {P P' : Heap → Prop} {Q : α → Heap → Prop} (x : Tr prog w A t P Q) (hp : ∀ h, P' h → P h) : Tr prog w A t P' Q := x.mono hp fun _ _ q => q
theorem Tr.post {t : Sem α} {P : Heap → Prop} {Q Q' : α → Heap → Prop} (x : Tr prog w A t P Q) (hq : ∀ v h, Q v h → Q' v h) : Tr prog w A t P Q' := x.mono (fun _ p => p) hq
theorem Tr.bind {t : Sem α} {f : α → Sem β} {P : Heap → Prop} {Q : α → Heap → Prop} {R : β → Heap → Prop} (x : Tr prog w A t P Q) (y : ∀ v, Tr prog w A (f v) (Q v) R) : Tr prog w A (t >>= f) P R :=
  fun s p => wpAny_bind (x.use p fun v h' _ q => (y v).use (s := { s with heap := h', toks := _ }) q fun u h'' tk r => ⟨h'', tk, rfl, r⟩)
theorem Tr.pure {v : α} {P : Heap → Prop} {Q : α → Heap → Prop} (h : ∀ g, P g → Q v g) : Tr prog w A (Pure.pure v) P Q := fun s p => wpAny_pure ⟨s.heap, s.toks, rfl, h _ p⟩
/-- from a lemma in the library's way -/
theorem Tr.of {t : Sem α} {P : Heap → Prop} {Q : α → Heap → Prop} (h : ∀ (s : Shared) (R : α → Shared → Prop), P s.heap → (∀ v h' tk, Q v h' → R v { s with heap := h', toks := tk }) → wpAny (model prog w) A t R (fun _ _ => False) s) : Tr prog w A t P Q :=
  fun s p => h s _ p fun _ h' tk q => ⟨h', tk, rfl, q⟩
theorem Tr.exists {ι : Type} {t : Sem α} {P : ι → Heap → Prop} {Q : α → Heap → Prop} (h : ∀ i, Tr prog w A t (P i) Q) : Tr prog w A t (fun g => ∃ i, P i g) Q :=
  fun s ⟨i, p⟩ => h i s p

/-- the expression's value reads as d -/
noncomputable def Ev (prog : Program) (w : World) (H : Heap) (A : Around) (a : Act) (ρ : Rho) (O : List (Addr × OD)) (e : Expr) (d : D) : Prop :=
  ∀ T, Tr prog w A (eval e a.env) (St prog w H a ρ O T) (fun v => St prog w H a ρ O ((v, d) :: T))
/-- its truth -/
noncomputable def Tt (prog : Program) (w : World) (H : Heap) (A : Around) (a : Act) (ρ : Rho) (O : List (Addr × OD)) (e : Expr) (b : Bool) : Prop :=
  ∀ T, Tr prog w A (isTrue e a.env (eval e a.env)) (St prog w H a ρ O T) (fun v h => v = b ∧ St prog w H a ρ O T h)
/-- arguments -/
noncomputable def EvL (prog : Program) (w : World) (H : Heap) (A : Around) (a : Act) (ρ : Rho) (O : List (Addr × OD)) (es : List Expr) (ds : List D) : Prop :=
  ∀ pos T, Tr prog w A (spliced (backTo pos (starEach es a.env))) (St prog w H a ρ O T) (fun vs h => vs.length = ds.length ∧ St prog w H a ρ O (vs.zip ds ++ T) h)

/-- a primitive of one, two, any number of values -/
noncomputable def P1 (prog : Program) (w : World) (H : Heap) (A : Around) (f : Value → Sem Value) (d1 d : D) : Prop :=
  ∀ a ρ O T v, Tr prog w A (f v) (St prog w H a ρ O ((v, d1) :: T)) (fun r => St prog w H a ρ O ((r, d) :: T))
noncomputable def P2 (prog : Program) (w : World) (H : Heap) (A : Around) (f : Value → Value → Sem Value) (d1 d2 d : D) : Prop :=
  ∀ a ρ O T v1 v2, Tr prog w A (f v1 v2) (St prog w H a ρ O ((v2, d2) :: (v1, d1) :: T)) (fun r => St prog w H a ρ O ((r, d) :: T))
noncomputable def PL (prog : Program) (w : World) (H : Heap) (A : Around) (f : List Value → Sem Value) (ds : List D) (d : D) : Prop :=
  ∀ a ρ O T vs, vs.length = ds.length → Tr prog w A (f vs) (St prog w H a ρ O (vs.zip ds ++ T)) (fun r => St prog w H a ρ O ((r, d) :: T))

theorem PL.of1 {f : List Value → Sem Value} {d1 d : D} (x : P1 prog w H A (fun v => f [v]) d1 d) : PL prog w H A f [d1] d := by
  intro a ρ O T vs hl
  obtain ⟨v, rfl⟩ := len1 hl
  exact x a ρ O T v
theorem PL.of2 {f : List Value → Sem Value} {d1 d2 d : D} (x : P2 prog w H A (fun v1 v2 => f [v1, v2]) d1 d2 d) : PL prog w H A f [d1, d2] d := by
  intro a ρ O T vs hl
  obtain ⟨v1, v2, rfl⟩ := len2 hl
  · refine (x a ρ O T v1 v2).pre fun h k => k.sub fun p hp => ?_
    simp only [List.zip_cons_cons, List.cons_append, List.mem_cons] at hp ⊢
    rcases hp with h | h | h
    · exact .inr (.inl h)
    · exact .inl h
    · exact .inr (.inr (by simpa using h))

theorem St.tail {p : Value × D} {h : Heap} (k : St prog w H a ρ O (p :: T) h) : St prog w H a ρ O T h := k.sub fun _ hp => .tail _ hp
theorem St.tail2 {p q : Value × D} {h : Heap} (k : St prog w H a ρ O (p :: q :: T) h) : St prog w H a ρ O (p :: T) h := k.sub fun r hr => by
  rcases List.mem_cons.mp hr with rfl | hr
  · exact .head _
  · exact .tail _ (.tail _ hr)
theorem St.tail3 {p q r : Value × D} {h : Heap} (k : St prog w H a ρ O (p :: q :: r :: T) h) : St prog w H a ρ O (p :: T) h := k.sub fun r hr => by
  rcases List.mem_cons.mp hr with rfl | hr
  · exact .head _
  · exact .tail _ (.tail _ (.tail _ hr))
theorem St.one {p : Value × D} {S : List (Value × D)} {h : Heap} (k : St prog w H a ρ O (p :: (S ++ T)) h) : St prog w H a ρ O (p :: T) h := k.sub fun r hr => by
  rcases List.mem_cons.mp hr with rfl | hr
  · exact .head _
  · exact .tail _ (List.mem_append_right _ hr)

/-! expressions -/
theorem Ev.name {x : Str} {pos : Pos} {d : D} (hx : ρ x = some (.val d)) (hd : (x == ("__debug__" : Str)) = false := by decide) (hn : (x == ("__classdict__" : Str)) = false := by decide) : Ev prog w H A a ρ O (.Name x pos) d :=
  fun T => Tr.of fun s R k h => wpAny_Name (loadB k hx hn fun v hv _ => h v s.heap s.toks (hv d rfl)) hd
theorem ev_own {x : Str} {pos : Pos} {n : Addr} (hx : ρ x = some (.own n)) (hd : (x == ("__debug__" : Str)) = false := by decide) (hn : (x == ("__classdict__" : Str)) = false := by decide) :
    Tr prog w A (eval (.Name x pos) a.env) (St prog w H a ρ O T) (fun v h => v = .ref n ∧ St prog w H a ρ O T h) :=
  Tr.of fun s R k h => wpAny_Name (loadB k hx hn fun v _ hv => h v s.heap s.toks ⟨hv n rfl, k⟩) hd
theorem Ev.int {i : Int} {k : Nat} {pos : Pos} : Ev prog w H A a ρ O (.Constant (.int i) k pos) (.int i) :=
  fun T => Tr.of fun s R q h => wpAny_Constant_int (h _ s.heap _ q.addInt)
theorem Ev.str {x : Str} {k : Nat} {pos : Pos} : Ev prog w H A a ρ O (.Constant (.str x) k pos) (.str x) :=
  fun T => Tr.of fun s R q h => wpAny_Constant_str (h _ s.heap _ q.addStr)
theorem Ev.noneC {k : Nat} {pos : Pos} : Ev prog w H A a ρ O (.Constant .none k pos) .none :=
  fun T => Tr.of fun s R q h => wpAny_Constant_none (h _ s.heap s.toks q.addNone)
theorem Ev.bool {b : Bool} {k : Nat} {pos : Pos} : Ev prog w H A a ρ O (.Constant (.bool b) k pos) (.bool b) :=
  fun T => Tr.of fun s R q h => wpAny_Constant_bool (h _ s.heap s.toks q.addBool)
theorem Ev.binop {l r : Expr} {op : Operator} {pos : Pos} {d1 d2 d : D} (x : Ev prog w H A a ρ O l d1) (y : Ev prog w H A a ρ O r d2) (z : P2 prog w H A (binaryOp op) d1 d2 d) : Ev prog w H A a ρ O (.BinOp l op r pos) d :=
  fun T => Tr.of fun s R q h => wpAny_BinOp ((x T).use q fun v1 _ _ q1 => (y _).use q1 fun v2 _ _ q2 => (z _ _ _ T v1 v2).use q2 fun v h' tk q3 => h v h' tk q3)
theorem Ev.compare {l r : Expr} {op : CmpOp} {pos : Pos} {d1 d2 d : D} (x : Ev prog w H A a ρ O l d1) (y : Ev prog w H A a ρ O r d2) (z : P2 prog w H A (compareOp op) d1 d2 d) (hm : behindInMarks op r = false := by with_unfolding_all rfl) : Ev prog w H A a ρ O (.Compare l [op] [r] pos) d :=
  fun T => Tr.of fun s R q h => wpAny_Compare1 ((x T).use q fun v1 _ _ q1 => (y _).use q1 fun v2 _ _ q2 => (z _ _ _ T v1 v2).use q2 fun v h' tk q3 => h v h' tk q3) hm
theorem Ev.ifexp {t b o : Expr} {pos : Pos} {c : Bool} {d1 d2 : D} (x : Tt prog w H A a ρ O t c) (y : c = true → Ev prog w H A a ρ O b d1) (z : c = false → Ev prog w H A a ρ O o d2) : Ev prog w H A a ρ O (.IfExp t b o pos) (if c then d1 else d2) :=
  fun T => Tr.of fun s R q h => wpAny_IfExp ((x T).use q fun v _ _ q1 => by
    obtain ⟨rfl, q1⟩ := q1
    cases v with
    | true => exact (y rfl T).use q1 fun v h' tk q2 => h v h' tk q2
    | false => exact (z rfl T).use q1 fun v h' tk q2 => h v h' tk q2)
theorem Ev.cast {e : Expr} {d d' : D} (x : Ev prog w H A a ρ O e d) (h : d = d') : Ev prog w H A a ρ O e d' := h ▸ x
theorem EvL.nil : EvL prog w H A a ρ O [] [] := fun pos T => Tr.of fun s R q h => wpAny_items_nil (h _ s.heap s.toks ⟨rfl, q⟩)
theorem EvL.cons {e : Expr} {es : List Expr} {d : D} {ds : List D} (x : Ev prog w H A a ρ O e d) (y : EvL prog w H A a ρ O es ds) (he : starEach (e :: es) a.env = (false, eval e a.env) :: starEach es a.env := by rfl) : EvL prog w H A a ρ O (e :: es) (d :: ds) :=
  fun pos T => Tr.of fun s R q h => wpAny_items_cons ((x T).use q fun v _ _ q1 => (y pos _).use q1 fun vs h' tk q2 => h (v :: vs) h' tk ⟨by rw [List.length_cons, q2.1, List.length_cons], q2.2.sub fun p hp => by
    rw [List.zip_cons_cons, List.cons_append] at hp
    rcases List.mem_cons.mp hp with rfl | hp
    · exact List.mem_append_right _ (.head _)
    · rcases List.mem_append.mp hp with hp | hp
      · exact List.mem_append_left _ hp
      · exact List.mem_append_right _ (.tail _ hp)⟩) he

theorem RdAll.of_pairs {φ : FM} {vs : List Value} {ds : List D} (hl : vs.length = ds.length) (h : ∀ p ∈ vs.zip ds ++ T, Rd prog w φ p.1 p.2) : RdAll prog w φ vs ds :=
  RdAll.of_zip hl fun p hp => h p (List.mem_append_left _ hp)
theorem Ev.tuple {es : List Expr} {k : Nat} {pos : Pos} {ds : List D} (x : EvL prog w H A a ρ O es ds) (hsz : ds.length ≤ sizeLine := by decide) : Ev prog w H A a ρ O (.Tuple es k pos) (.tup ds) :=
  fun T => Tr.of fun s R q h => wpAny_Tuple ((x pos T).use q fun vs h' tk q1 => ⟨q1.1 ▸ hsz, h _ _ _ (by
    have q2 := q1.2.alloc (n := h'.objs.size) (d := .tup ds) (Keep.push h' { cls := .type "tuple", data := .seq (List.toArray vs) }) (by
      cases e : h'.get? h'.objs.size with
      | none => rfl
      | some o => exact absurd (Heap.lt_size e) (Nat.lt_irrefl _)) (Heap.get?_push_size _ rfl) (fun φ hT hφ => .tup hφ (RdAll.of_pairs q1.1 hT))
    exact q2.one)⟩)
theorem fresh_none (h : Heap) : h.get? h.objs.size = none := by
  cases e : h.get? h.objs.size with
  | none => rfl
  | some o => exact absurd (Heap.lt_size e) (Nat.lt_irrefl _)
theorem Ev.list {es : List Expr} {pos : Pos} {ds : List D} (x : EvL prog w H A a ρ O es ds) (hsz : ds.length ≤ sizeLine := by decide) : Ev prog w H A a ρ O (.List es pos) (.list ds) :=
  fun T => Tr.of fun s R q h => wpAny_List ((x pos T).use q fun vs h' tk q1 => ⟨q1.1 ▸ hsz, h _ _ _ (by
    have q2 := q1.2.alloc (n := h'.objs.size) (d := .list ds) (Keep.push h' { cls := .type "list", data := .seq (List.toArray vs) }) (fresh_none h') (Heap.get?_push_size _ rfl) (fun φ hT hφ => .list hφ (RdAll.of_pairs q1.1 hT))
    exact q2.one)⟩)
/-- a list display that is to be an own list -/
theorem own_list {es : List Expr} {pos : Pos} {ds : List D} (x : EvL prog w H A a ρ O es ds) (hsz : ds.length ≤ sizeLine := by decide) :
    Tr prog w A (eval (.List es pos) a.env) (St prog w H a ρ O T) (fun v h => ∃ n, v = .ref n ∧ St prog w H a ρ ((n, .list ds) :: O) T h) :=
  Tr.of fun s R q h => wpAny_List ((x pos T).use q fun vs h' tk q1 => ⟨q1.1 ▸ hsz, h _ _ _ (by
    have q2 := q1.2.mine (n := h'.objs.size) (d := .list ds) (Keep.push h' { cls := .type "list", data := .seq (List.toArray vs) }) (fresh_none h') (Heap.get?_push_size _ rfl) (fun φ hT => ⟨_, _, rfl, RdAll.of_pairs q1.1 hT⟩)
    exact ⟨_, rfl, q2.sub fun p hp => List.mem_append_right _ hp⟩)⟩)

/-! truth -/
theorem Tt.compare {l r : Expr} {op : CmpOp} {pos : Pos} {d1 d2 : D} {b : Bool} (x : Ev prog w H A a ρ O l d1) (y : Ev prog w H A a ρ O r d2) (z : P2 prog w H A (compareOp op) d1 d2 (.bool b)) (hm : behindInMarks op r = false := by with_unfolding_all rfl) : Tt prog w H A a ρ O (.Compare l [op] [r] pos) b :=
  fun T => Tr.of fun s R q h => wpAny_isTrue_Compare1 ((x T).use q fun v1 _ _ q1 => (y _).use q1 fun v2 _ _ q2 => (z _ _ _ T v1 v2).use q2 fun v h' tk q3 => by
    have e := q3.bool (.head _)
    subst e
    exact wpAny_truthy_bool (h _ h' tk ⟨rfl, q3.tail⟩)) hm

/-! statements -/
theorem execs_nil {Q : Flow → Heap → Prop} {P : Heap → Prop} {env : Env} (h : ∀ g, P g → Q .next g) : Tr prog w A (execs [] env) P Q := Tr.of fun s R q k => wpAny_execs_nil (k _ s.heap s.toks (h _ q))
theorem execs_cons {st : Stmt} {rest : List Stmt} {env : Env} {P : Heap → Prop} {M Q : Flow → Heap → Prop} (x : Tr prog w A (exec st env) P M) (hn : Tr prog w A (execs rest env) (M .next) Q) (ho : ∀ f h, f ≠ .next → M f h → Q f h) : Tr prog w A (execs (st :: rest) env) P Q :=
  Tr.of fun s R q k => wpAny_execs_cons (x.use q fun f h' tk q1 => by
    cases f with
    | next => exact hn.use q1 fun f h'' tk' q2 => k f h'' tk' q2
    | brk => exact k _ _ _ (ho _ _ (fun e => nomatch e) q1)
    | cont => exact k _ _ _ (ho _ _ (fun e => nomatch e) q1)
    | ret v => exact k _ _ _ (ho _ _ (fun e => nomatch e) q1))
/-- a statement that goes on -/
noncomputable def Nx (P : Heap → Prop) : Flow → Heap → Prop := fun f h => f = .next ∧ P h
theorem execs_next {st : Stmt} {rest : List Stmt} {env : Env} {P P' : Heap → Prop} {Q : Flow → Heap → Prop} (x : Tr prog w A (exec st env) P (Nx P')) (hn : Tr prog w A (execs rest env) P' Q) : Tr prog w A (execs (st :: rest) env) P Q :=
  execs_cons x (hn.pre fun _ q => q.2) fun f h e q => absurd q.1 e
theorem ex_assign {x : Str} {pos' pos : Pos} {value : Expr} {d : D} (e : Ev prog w H A a ρ O value d) (hs : Storable a x) (hsw : swapsWith value (some (.Name x pos')) pos.line a.env = Pure.pure false := by rfl) :
    Tr prog w A (exec (.Assign [.Name x pos'] value pos) a.env) (St prog w H a ρ O T) (Nx (St prog w H a (upd ρ x (.val d)) O T)) :=
  Tr.of fun s R q h => wpAny_Assign_Name ((e T).use q fun v h' tk q1 => storeB (b := .val d) q1 hs (fun φ hT => hT _ (.head _)) fun h'' tk' q2 => h _ h'' tk' ⟨rfl, q2.tail⟩) hsw
theorem ex_assign_own {x : Str} {pos' pos : Pos} {es : List Expr} {lp : Pos} {ds : List D} (e : EvL prog w H A a ρ O es ds) (hs : Storable a x) (hsw : swapsWith (.List es lp) (some (.Name x pos')) pos.line a.env = Pure.pure false := by rfl) (hsz : ds.length ≤ sizeLine := by decide) :
    Tr prog w A (exec (.Assign [.Name x pos'] (.List es lp) pos) a.env) (St prog w H a ρ O T) (Nx fun h => ∃ n, St prog w H a (upd ρ x (.own n)) ((n, .list ds) :: O) T h) :=
  Tr.of fun s R q h => wpAny_Assign_Name ((own_list e hsz).use q fun v h' tk q1 => by
    obtain ⟨n, rfl, q1⟩ := q1
    exact storeB (b := .own n) q1 hs (fun φ hT => rfl) fun h'' tk' q2 => h _ h'' tk' ⟨rfl, n, q2⟩) hsw
theorem ex_if {test : Expr} {body orelse : List Stmt} {pos : Pos} {b : Bool} {Q : Flow → Heap → Prop} (x : Tt prog w H A a ρ O test b) (y : b = true → Tr prog w A (execs body a.env) (St prog w H a ρ O T) Q) (z : b = false → Tr prog w A (execs orelse a.env) (St prog w H a ρ O T) Q) :
    Tr prog w A (exec (.If test body orelse pos) a.env) (St prog w H a ρ O T) Q :=
  Tr.of fun s R q h => wpAny_If ((x T).use q fun v h' tk q1 => by
    obtain ⟨rfl, q1⟩ := q1
    cases v with
    | true => exact (y rfl).use q1 fun f h'' tk' q2 => h f h'' tk' q2
    | false => exact (z rfl).use q1 fun f h'' tk' q2 => h f h'' tk' q2)
theorem ex_return {e : Expr} {pos : Pos} {d : D} (x : Ev prog w H A a ρ O e d) : Tr prog w A (exec (.Return (some e) pos) a.env) (St prog w H a ρ O T) (fun f h => ∃ v, f = .ret v ∧ St prog w H a ρ O ((v, d) :: T) h) :=
  Tr.of fun s R q h => wpAny_Return_some ((x T).use q fun v h' tk q1 => h _ h' tk ⟨v, rfl, q1⟩)
end
end Mine

namespace Mine

section
variable {prog : Program} {w : World} {H : Heap} {A : Around} {a a' : Act} {ρ ρ' : Rho} {O O' Ow Ow' Oz : List (Addr × OD)} {T T' Tn : List (Value × D)} {φ φ' : FM} {m m' : Str → Option Value} {h h' : Heap} {mg mb : Str → Option Value}

theorem Core.back (q : Core prog w H a ρ O T φ m h) (q' : Core prog w H a' ρ' O' T' φ' m' h') (hΦ : a'.Φ = φ) (h0 : a'.h₀ = h) {p : Value × D} (hp : p ∈ T') : Core prog w H a ρ O (p :: T) φ' m h' := by
  have hb : Keep h h' := h0 ▸ q'.base
  have he : ∀ b o, φ b = some o → φ' b = some o := fun b o e => q'.ext b o (hΦ ▸ e)
  have hn : ∀ b o, φ' b = some o → φ b = some o ∨ h.get? b = none := fun b o e => (q'.new b o e).imp (fun x => hΦ ▸ x) fun x => h0 ▸ x
  have k := q.keep hb
  refine { k with ext := fun b o e => he b o (q.ext b o e), sub := q'.sub, new := ?_, own := ?_, mutd := ?_, names := ?_, temps := ?_ }
  · intro b o e
    rcases hn b o e with e | e
    · exact q.new b o e
    · exact .inr (q.base_free e)
  · intro p hp
    obtain ⟨o, ho, r⟩ := k.own p hp
    exact ⟨o, ho, r.mono he⟩
  · intro b hb
    refine ⟨?_, (q.mutd b hb).2⟩
    cases e : φ' b with
    | none => rfl
    | some o =>
      rcases hn b o e with e' | e'
      · rw [(q.mutd b hb).1] at e'; cases e'
      · obtain ⟨o', ho⟩ := muts_alive q b hb
        rw [ho] at e'; cases e'
  · intro x b e
    exact (k.names x b e).keep he fun _ _ _ e => e
  · intro p' hp'
    rcases List.mem_cons.mp hp' with rfl | hp'
    · exact q'.temps _ hp
    · exact (q.temps p' hp').mono he

noncomputable def fact (fd : FuncData) (f : Addr) (L : Addr) (Φ : FM) (h₀ : Heap) : Act := ⟨callEnvC fd L f, cellsFrom (L + 1) fd.scope.names [], Φ, h₀⟩
noncomputable def argRho (xs : List Str) (ds : List D) : Rho := fun y => ((xs.zip ds).lookup y).map B.val

theorem bindL_not {k : Str → Option NameKind} {x : Str} : ∀ {binds : List (Str × Value)} {m : Str → Option Value}, x ∉ binds.map (·.1) → bindL k binds m x = m x
  | [], _, _ => rfl
  | (n, v) :: r, m, hx => by
    unfold bindL
    rw [List.map_cons, List.mem_cons] at hx
    rw [bindL_not (fun e => hx (.inr e))]
    split
    · exact if_neg fun e => hx (.inl e)
    · rfl
theorem bindL_of {k : Str → Option NameKind} {x : Str} {v : Value} (hk : k x = some .local) : ∀ {binds : List (Str × Value)} {m : Str → Option Value}, (binds.map (·.1)).Nodup → (x, v) ∈ binds → bindL k binds m x = some v
  | (n, u) :: r, m, hn, hx => by
    unfold bindL
    rw [List.map_cons] at hn
    have hn' := List.nodup_cons.mp hn
    rcases List.mem_cons.mp hx with e | hx
    · cases e
      rw [bindL_not hn'.1, if_pos hk]
      exact if_pos rfl
    · exact bindL_of hk hn'.2 hx
theorem bindC_not {k : Str → Option NameKind} {x : Str} : ∀ {binds : List (Str × Value)} {m : Str → Option Value}, x ∉ binds.map (·.1) → bindC k binds m x = m x
  | [], _, _ => rfl
  | (n, v) :: r, m, hx => by
    unfold bindC
    rw [List.map_cons, List.mem_cons] at hx
    rw [bindC_not (fun e => hx (.inr e))]
    split
    · rfl
    · exact if_neg fun e => hx (.inl e)
theorem bindC_of {k : Str → Option NameKind} {x : Str} {v : Value} (hk : k x = some .cell) : ∀ {binds : List (Str × Value)} {m : Str → Option Value}, (binds.map (·.1)).Nodup → (x, v) ∈ binds → bindC k binds m x = some v
  | (n, u) :: r, m, hn, hx => by
    unfold bindC
    rw [List.map_cons] at hn
    have hn' := List.nodup_cons.mp hn
    rcases List.mem_cons.mp hx with e | hx
    · cases e
      rw [bindC_not hn'.1, if_neg (by rw [hk]; decide)]
      exact if_pos rfl
    · exact bindC_of hk hn'.2 hx
theorem zip_three {x : Str} {d : D} : ∀ {xs : List Str} {vs : List Value} {ds : List D}, vs.length = ds.length → (x, d) ∈ xs.zip ds → ∃ v, (x, v) ∈ xs.zip vs ∧ (v, d) ∈ vs.zip ds
  | [], _, _, _, h => by simp at h
  | _ :: _, _, [], _, h => by simp at h
  | y :: xs, [], d' :: ds, hl, h => by simp at hl
  | y :: xs, v :: vs, d' :: ds, hl, h => by
    rw [List.zip_cons_cons] at h
    rcases List.mem_cons.mp h with e | h
    · cases e; exact ⟨v, by simp, by simp⟩
    · obtain ⟨u, h1, h2⟩ := zip_three (by simpa using hl) h
      exact ⟨u, by rw [List.zip_cons_cons]; exact .tail _ h1, by rw [List.zip_cons_cons]; exact .tail _ h2⟩
theorem zip_fst {α β : Type} : ∀ {xs : List α} {ys : List β}, ys.length = xs.length → (xs.zip ys).map (·.1) = xs
  | [], [], _ => rfl
  | x :: xs, y :: ys, h => by rw [List.zip_cons_cons, List.map_cons, zip_fst (by simpa using h)]

theorem PL.fn {f : Addr} {o : Obj} {fd : FuncData} {body : List Stmt} {xs : List Str} {ds : List D} {d : D} (W : Wo prog w H mg mb) (hl : (hd.heap_1 w.params).lookup f = some o) (hdata : o.data = .func fd)
    (hcd : codeIn (hd.heap_1 w.params) fd.code fd.qualname = true) (hbody : fd.body = .stmts body) (hclo : fd.closure = []) (hroom : A.depth < recursionLimit)
    (hbind : ∀ vs : List Value, vs.length = xs.length → bindArgs fd ⟨vs, []⟩ = pure (xs.zip vs)) (hlen : ds.length = xs.length) (hxs : xs.Nodup)
    (hkind : (xs.all fun x => fd.scope.names.lookup x == some .local || (fd.scope.names.lookup x == some .cell && ((cellsFrom 0 fd.scope.names []).lookup x).isSome)) = true)
    (hcells : ((cellsFrom 0 fd.scope.names []).map (·.1)).Nodup) (hgl : fd.globals = mainGlobals) (hbl : fd.builtins = builtinsNs)
    (hb : ∀ L Φ h₀, Tr prog w (A.deeper (callEnvC fd L f)) (execs body (callEnvC fd L f)) (St prog w H (fact fd f L Φ h₀) (argRho xs ds) [] [])
      (fun fl h => ∃ v ρ' O' T', (match fl with | .ret v => v | _ => Value.none) = v ∧ St prog w H (fact fd f L Φ h₀) ρ' O' ((v, d) :: T') h))
    (hco : fd.scope.isCoroutine = false := by rfl) (hgen : fd.scope.isGenerator = false := by rfl) (hk : fd.scope.kind = .function := by rfl) :
    PL prog w H A (fun vs => call (.ref f) vs) ds d := by
  intro a ρ O T vs hvs s K
  obtain ⟨φ, m, q⟩ := K
  have kH : Keep H s.heap := q.wb.trans q.base
  have hvx : vs.length = xs.length := hvs.trans hlen
  have hcn : ∀ n, ((cellsFrom n fd.scope.names []).map (·.1)).Nodup := fun n => by rw [cellsFrom_names fd.scope.names n 0 [] [] rfl]; exact hcells
  have hcs : ∀ n x, ((cellsFrom 0 fd.scope.names []).lookup x).isSome = true → ((cellsFrom n fd.scope.names []).lookup x).isSome = true := by
    intro n x hx
    obtain ⟨c, hc⟩ := Option.isSome_iff_exists.mp hx
    have h1 := List.mem_map_of_mem (f := (·.1)) (mem_of_lookup hc)
    rw [cellsFrom_names fd.scope.names 0 n [] [] rfl] at h1
    obtain ⟨p, hp, e⟩ := List.mem_map.mp h1
    have : (x, p.2) ∈ cellsFrom n fd.scope.names [] := by rw [← (show p.1 = x from e)]; exact hp
    rw [lookup_of_mem_nodup (hcn n) this]; rfl
  have hfst : (xs.zip vs).map (·.1) = xs := zip_fst hvx
  have hkx : ∀ x ∈ xs, fd.scope.names.lookup x = some .local ∨ (fd.scope.names.lookup x = some .cell ∧ ((cellsFrom 0 fd.scope.names []).lookup x).isSome = true) := by
    intro x hx
    have := List.all_eq_true.mp hkind x hx
    simpa using this
  refine wpAny_call (codeAny_call_cells hroom (kH _ _ (W.X _ _ hl)) hdata (W.lim.keeps kH) (codeRec_of (fun a o e => kH _ _ (W.X a o e)) hcd) hbody (hbind vs hvx) hclo ?_ ?_ hco hgen hk)
  · intro x hx
    have hx' : x.1 ∈ xs := hfst ▸ List.mem_map_of_mem (f := (·.1)) hx
    rcases hkx _ hx' with e | ⟨e, e'⟩
    · exact .inl e
    · exact .inr ⟨e, hcs _ _ e'⟩
  · intro s₁ X
    have hL : (callEnvC fd s.heap.objs.size f).locals = s.heap.objs.size := rfl
    have hC : (callEnvC fd s.heap.objs.size f).cells = cellsFrom (s.heap.objs.size + 1) fd.scope.names [] := rfl
    obtain ⟨h₁, tk, rfl⟩ := X.toInCall.same
    have kp := X.toInCall.keep
    have free : ∀ b, s.heap.objs.size ≤ b → s.heap.get? b = none := fun b hb => by
      cases e : s.heap.get? b with
      | none => rfl
      | some o => exact absurd (Heap.lt_size e) (Nat.not_lt.mpr hb)
    have above : ∀ p ∈ cellsFrom (s.heap.objs.size + 1) fd.scope.names [], s.heap.objs.size < p.2 := fun p hp => X.above p.1 p.2 hp
    have q1 : Core prog w H (fact fd f s.heap.objs.size φ s.heap) (argRho xs ds) [] [] φ (bindL (callEnvC fd s.heap.objs.size f).kindOf (xs.zip vs) fun _ => none) h₁ := by
      refine { wb := kH, base := kp, ext := fun _ _ e => e, sub := fun b o e => kp b o (q.sub b o e), new := fun b o e => .inl e, ns := X.toInCall.ns, fn := hk, gl := hgl, bl := hbl, look := ?_, cells := ?_, own := (fun p hp => nomatch hp), nodup := ?_, mutd := ?_, names := ?_, temps := (fun p hp => nomatch hp) }
      · intro x c hc
        exact .inl (mem_of_lookup hc)
      · intro p hp
        exact ⟨_, X.cell p.1 p.2 (lookup_of_mem_nodup (hcn _) hp)⟩
      · show (s.heap.objs.size :: ((cellsFrom (s.heap.objs.size + 1) fd.scope.names []).map (·.2) ++ [])).Nodup
        rw [List.append_nil]
        refine List.nodup_cons.mpr ⟨fun hm => ?_, ?_⟩
        · obtain ⟨p, hp, e⟩ := List.mem_map.mp hm
          exact absurd (above p hp) (by rw [e]; exact Nat.lt_irrefl _)
        · have := X.apart
          rw [hC] at this
          exact List.pairwise_map.mpr this
      · intro b hb
        have hle : s.heap.objs.size ≤ b := by
          rcases List.mem_cons.mp hb with rfl | hb
          · exact Nat.le_refl _
          · rw [List.map_nil, List.append_nil] at hb
            obtain ⟨p, hp, rfl⟩ := List.mem_map.mp hb
            exact Nat.le_of_lt (above p hp)
        exact ⟨q.phi_free (free b hle), free b hle⟩
      · intro x b e
        have e' : ((xs.zip ds).lookup x).map B.val = some b := e
        obtain ⟨d', hd', rfl⟩ := Option.map_eq_some_iff.mp e'
        obtain ⟨v, h1, h2⟩ := zip_three hvs (mem_of_lookup hd')
        have hx' : x ∈ xs := hfst ▸ List.mem_map_of_mem (f := (·.1)) h1
        refine ⟨v, q.temps _ (List.mem_append_left _ h2), ?_⟩
        rcases hkx x hx' with k | ⟨k, k'⟩
        · exact .inl ⟨k, bindL_of k (hfst.symm ▸ hxs) h1⟩
        · obtain ⟨c, hc⟩ := Option.isSome_iff_exists.mp (hcs (s.heap.objs.size + 1) x k')
          refine .inr ⟨.inl k, c, hc, ?_⟩
          have := X.cell x c hc
          rwa [bindC_of k (hfst.symm ▸ hxs) h1] at this
    refine (hb s.heap.objs.size φ s.heap).use (s := { s with heap := h₁, toks := tk }) ⟨φ, _, q1⟩ fun fl h' tk' k => ?_
    obtain ⟨v, ρ', O', T', rfl, φ', m', q'⟩ := k
    refine ⟨h', tk', rfl, φ', m, ?_⟩
    have := Core.back q q' rfl rfl (.head _)
    exact { this with temps := fun p hp => this.temps p (by
      rcases List.mem_cons.mp hp with rfl | hp
      · exact .head _
      · exact .tail _ (List.mem_append_right _ hp)) }
end
end Mine

namespace Mine

section
variable {prog : Program} {w : World} {H : Heap} {A : Around} {a a' : Act} {ρ ρ' : Rho} {O O' O₁ Oe Ow Ow' Oz : List (Addr × OD)} {T T' Tn : List (Value × D)} {φ φ' : FM} {m m' : Str → Option Value} {h h' : Heap} {mg mb : Str → Option Value}

theorem own_append {n : Addr} {v : Value} {d : D} {ds : List D} (hsz : ds.length ≤ sizeLine) :
    Tr prog w A (call (.builtin "list.append") [.ref n, v]) (St prog w H a ρ ((n, .list ds) :: O) ((v, d) :: T)) (fun r h => r = .none ∧ St prog w H a ρ ((n, .list (ds ++ [d])) :: O) T h) :=
  Tr.of fun s R K hR => by
    obtain ⟨φ, m, q⟩ := id K
    obtain ⟨o, ho, vs, k, rfl, hr⟩ := q.own _ (.head _)
    have hl := hr.length
    refine wpAny_list_append_plain ⟨k, ho⟩ (fun h' hp hs => ?_) (by rw [List.size_toArray, hl]; exact hsz)
    refine hR _ h' s.toks ⟨rfl, ?_⟩
    obtain ⟨k', hk'⟩ := hp
    have := St.step (Ow := [(n, OD.list ds)]) (Ow' := [(n, OD.list (ds ++ [d]))]) (Oz := O) (Tn := []) (h' := h') K rfl (fun b o hb e => (hs.2 b (by simpa using hb)).trans e) (fun _ => none) (fun _ _ e => nomatch e) ?_ (fun _ _ _ _ p hp => nomatch hp)
    · exact this.tail
    · intro φ' hT _ hO p hp
      rw [List.mem_singleton] at hp
      subst hp
      obtain ⟨o', ho', vs', k'', rfl, hr'⟩ := hO _ (.head _)
      have e := Option.some.inj (ho.symm.trans ho')
      have ev : vs = vs' := by
        have := congrArg Obj.data e
        simpa using (Data.seq.inj this).1
      subst ev
      refine ⟨_, hk', vs ++ [v], k', ?_, RdAll.append hr' (.cons (hT _ (.head _)) .nil)⟩
      simp

/-! sources of a loop -/
structure Src (prog : Program) (w : World) (H : Heap) (A : Around) (target : Expr) (I : Addr) (es : List D) (X : Nat → List (Addr × OD) → List (Value × D) → Prop) (Oe : List (Addr × OD)) : Prop where
  next : ∀ (a : Act) (ρ : Rho) (O : List (Addr × OD)) (T : List (Value × D)) (i : Nat) (Ow : List (Addr × OD)) (Tw : List (Value × D)) (s : Shared), X i Ow Tw → St prog w H a ρ (Ow ++ O) (Tw ++ T) s.heap →
    wpAny (model prog w) A (pyNext (.ref I)) (fun r s₁ => match es[i]? with
      | some d => ∃ v, r = some v ∧ wpAny (model prog w) A (letOwnedTupleGo target (.ref I) v) (fun _ s₂ => ∃ h' tk Ow' Tw', s₂ = { s with heap := h', toks := tk } ∧ X (i + 1) Ow' Tw' ∧ St prog w H a ρ (Ow' ++ O) ((v, d) :: (Tw' ++ T)) h') (fun _ _ => False) s₁
      | none => r = none ∧ ∃ h' tk, s₁ = { s with heap := h', toks := tk } ∧ St prog w H a ρ (Oe ++ O) T h') (fun _ _ => False) s
  self : ∀ (a : Act) (ρ : Rho) (O : List (Addr × OD)) (T : List (Value × D)) (i : Nat) (Ow : List (Addr × OD)) (Tw : List (Value × D)) (s : Shared), X i Ow Tw → St prog w H a ρ (Ow ++ O) (Tw ++ T) s.heap →
    wpAny (model prog w) A (pyIter (.ref I)) (fun r s₁ => r = .ref I ∧ s₁ = s) (fun _ _ => False) s

noncomputable def SrcAt (prog : Program) (w : World) (H : Heap) (A : Around) (a : Act) (ρ : Rho) (O₁ Oe : List (Addr × OD)) (target : Expr) (es : List D) (T : List (Value × D)) (it : Value) (h : Heap) : Prop :=
  ∃ I X Ow Tw, it = .ref I ∧ Src prog w H A target I es X Oe ∧ X 0 Ow Tw ∧ St prog w H a ρ (Ow ++ O₁) (Tw ++ T) h

/-- the value is a source -/
noncomputable def Itr (prog : Program) (w : World) (H : Heap) (A : Around) (target : Expr) (d : D) (es : List D) : Prop :=
  ∀ a ρ O T v, Tr prog w A (pyIter v) (St prog w H a ρ O ((v, d) :: T)) (fun it h => SrcAt prog w H A a ρ O [] target es T it h)
/-- the expression's value is a source -/
noncomputable def EvIt (prog : Program) (w : World) (H : Heap) (A : Around) (a : Act) (ρ : Rho) (O O₁ Oe : List (Addr × OD)) (target iter : Expr) (es : List D) : Prop :=
  ∀ T (s : Shared), St prog w H a ρ O T s.heap → wpAny (model prog w) A (eval iter a.env) (fun x s₁ => (∃ h' tk, s₁ = { s with heap := h', toks := tk }) ∧ wpAny (model prog w) A (pyIter x) (fun it s₂ => ∃ h' tk, s₂ = { s with heap := h', toks := tk } ∧ SrcAt prog w H A a ρ O₁ Oe target es T it h') (fun _ _ => False) s₁) (fun _ _ => False) s
theorem EvIt.of {target iter : Expr} {d : D} {es : List D} (x : Ev prog w H A a ρ O iter d) (y : Itr prog w H A target d es) : EvIt prog w H A a ρ O O [] target iter es :=
  fun T s K => (x T).use K fun v h' tk q => ⟨⟨h', tk, rfl⟩, (y a ρ O T v).use (s := { s with heap := h', toks := tk }) q fun it h'' tk' q' => ⟨h'', tk', rfl, q'⟩⟩

/-- the target takes d -/
noncomputable def Asg (prog : Program) (w : World) (H : Heap) (A : Around) (a : Act) (target : Expr) (d : D) (ρ ρ' : Rho) : Prop :=
  ∀ O T v, Tr prog w A (assign target a.env v) (St prog w H a ρ O ((v, d) :: T)) (fun _ => St prog w H a ρ' O T)
theorem Asg.name {x : Str} {pos : Pos} {d : D} (hs : Storable a x) : Asg prog w H A a (.Name x pos) d ρ (upd ρ x (.val d)) :=
  fun O T v => Tr.of fun s R q h => wpAny_assign_Name (storeB (b := .val d) q hs (fun φ hT => hT _ (.head _)) fun h' tk k => h _ h' tk k.tail)

/-- unpacking a tuple -/
noncomputable def AsgL (prog : Program) (w : World) (H : Heap) (A : Around) (a : Act) (ts : List (Value → Sem Unit)) (ds : List D) (ρ ρ' : Rho) : Prop :=
  ∀ O T vs, vs.length = ds.length → Tr prog w A (assignInOrder ts vs) (St prog w H a ρ O (vs.zip ds ++ T)) (fun _ => St prog w H a ρ' O T)
theorem AsgL.nil : AsgL prog w H A a [] [] ρ ρ := fun O T vs hl => Tr.of fun s R q h => by
  cases vs with
  | nil => exact wpAny_pure (h _ s.heap s.toks q)
  | cons _ _ => simp at hl
theorem AsgL.cons {t : Expr} {ts : List (Value → Sem Unit)} {d : D} {ds : List D} {ρ₁ ρ₂ : Rho} (x : Asg prog w H A a t d ρ ρ₁) (y : AsgL prog w H A a ts ds ρ₁ ρ₂) : AsgL prog w H A a (assign t a.env :: ts) (d :: ds) ρ ρ₂ :=
  fun O T vs hl => Tr.of fun s R q h => by
    cases vs with
    | nil => simp at hl
    | cons v vs =>
      show wpAny _ _ (do holding vs (assign t a.env v); assignInOrder ts vs) _ _ _
      refine wpAny_bind (wpAny_holding ((x O (vs.zip ds ++ T) v).use (by rw [List.zip_cons_cons] at q; exact q) fun _ h' tk q1 => ?_))
      exact (y O T vs (by simpa using hl)).use (s := { s with heap := h', toks := tk }) q1 fun u h'' tk' q2 => h u h'' tk' q2
theorem Asg.tuple {es : List Expr} {k : Nat} {pos : Pos} {ds : List D} (hh : A.handled = none) (x : AsgL prog w H A a ((assignEach es a.env).map (·.2)) ds ρ ρ') (hlen : (assignEach es a.env).length = ds.length) (hstar : (assignEach es a.env).findIdx? (·.1) = none) :
    Asg prog w H A a (.Tuple es k pos) (.tup ds) ρ ρ' := fun O T v => Tr.of fun s R q h => by
  obtain ⟨n, vs, k, rfl, ht, hvl, q1⟩ := q.tup (.head _)
  refine wpAny_assign_Tuple hh ⟨_, ht, rfl, k, rfl⟩ (by rw [hlen, List.size_toArray, hvl]) hstar fun h' he => ?_
  have kp : Keep s.heap h' := fun b o e => he b o (Nat.ne_of_lt (Heap.lt_size e)) e
  exact (x O T vs hvl).use (s := { s with heap := h' }) ((q1.keep kp).sub fun p hp => by
    rcases List.mem_append.mp hp with hp | hp
    · exact List.mem_append_left _ hp
    · exact List.mem_append_right _ (.tail _ hp)) fun u h'' tk' q2 => h u h'' tk' q2

theorem Asg.tupg {es : List Expr} {k : Nat} {pos : Pos} {ds : List D} (hh : A.handled = none) (x : AsgL prog w H A a ((assignEach es a.env).map (·.2)) ds ρ ρ') (hlen : (assignEach es a.env).length = ds.length) (hstar : (assignEach es a.env).findIdx? (·.1) = none) :
    Asg prog w H A a (.Tuple es k pos) (.tupg ds) ρ ρ' := fun O T v => Tr.of fun s R q h => by
  obtain ⟨n, vs, rfl, ht, hvl, q1⟩ := q.tupg (.head _)
  refine wpAny_assign_Tuple hh ht (by rw [hlen, List.size_toArray, hvl]) hstar fun h' he => ?_
  have kp : Keep s.heap h' := fun b o e => he b o (Nat.ne_of_lt (Heap.lt_size e)) e
  exact (x O T vs hvl).use (s := { s with heap := h' }) ((q1.keep kp).sub fun p hp => by
    rcases List.mem_append.mp hp with hp | hp
    · exact List.mem_append_left _ hp
    · exact List.mem_append_right _ (.tail _ hp)) fun u h'' tk' q2 => h u h'' tk' q2

/-! the for statement -/
theorem ex_for {target iter : Expr} {body : List Stmt} {pos : Pos} {es : List D} (ρ_ ρb : Nat → Rho) (O_ : Nat → List (Addr × OD)) (G : Nat → Prop) {Rv : List (Value × D) → Value → Heap → Prop}
    (it : EvIt prog w H A a ρ O O₁ Oe target iter es) (h0 : ∀ x b, ρ_ 0 x = some b → ρ x = some b) (hO : O_ 0 = O₁) (hG : G 0)
    (hasg : ∀ i d, es[i]? = some d → Asg prog w H A a target d (ρ_ i) (ρb i))
    (step : ∀ i d, es[i]? = some d → G i → ∀ Oz T, Tr prog w A (execs body a.env) (St prog w H a (ρb i) (O_ i ++ Oz) T) (fun f h => ((f = .next ∨ f = .cont) ∧ G (i + 1) ∧ St prog w H a (ρ_ (i + 1)) (O_ (i + 1) ++ Oz) T h) ∨ ∃ v, f = .ret v ∧ Rv T v h))
    (hRv : ∀ (T T' : List (Value × D)) v h, Rv (T' ++ T) v h → Rv T v h)
    (hs : ∀ x, foldedSetIterable iter a.env x = pure x := by intro _; rfl) :
    Tr prog w A (exec (.For target iter body [] pos) a.env) (St prog w H a ρ O T) (fun f h => (f = .next ∧ G es.length ∧ St prog w H a (ρ_ es.length) (O_ es.length ++ Oe) T h) ∨ ∃ v, f = .ret v ∧ Rv T v h) := Tr.of fun s R K hR => by
  refine wpAny_For (wpAny_mono (it T s K) (fun x s₁ h₁ => wpAny_mono h₁.2 (fun itv s₂ h₂ => ?_) fun _ _ e => e.elim) fun _ _ e => e.elim) hs
  obtain ⟨h₂, tk₂, rfl, I, X, Ow, Tw, rfl, S, hX, K₂⟩ := h₂
  refine codeAny_forLoop_any (fun n s' => ∃ h' tk i Ow Tw, s' = { s with heap := h', toks := tk } ∧ i ≤ es.length ∧ n = es.length + 1 - i ∧ X i Ow Tw ∧ G i ∧ St prog w H a (ρ_ i) (Ow ++ O_ i) (Tw ++ T) h') ?_ (es.length + 1)
    ⟨h₂, tk₂, 0, Ow, Tw, rfl, Nat.zero_le _, rfl, hX, hG, by rw [hO]; exact K₂.forget h0⟩
  rintro n s' ⟨h', tk, i, Ow, Tw, rfl, hi, rfl, hX, hG, K⟩
  refine wpAny_mono (S.next a (ρ_ i) (O_ i) T i Ow Tw _ hX K) (fun r s₁ h₁ => ?_) fun _ _ e => e.elim
  cases hd : es[i]? with
  | none =>
    rw [hd] at h₁
    obtain ⟨rfl, h₃, tk₃, rfl, K₃⟩ := h₁
    have hie : i = es.length := Nat.le_antisymm hi (by simpa using hd)
    subst hie
    exact wpAny_execs_nil (hR _ _ _ (.inl ⟨rfl, hG, K₃.perm List.perm_append_comm⟩))
  | some d =>
    rw [hd] at h₁
    obtain ⟨v, rfl, h₁⟩ := h₁
    refine wpAny_mono h₁ (fun _ s₂ h₂ => ?_) fun _ _ e => e.elim
    obtain ⟨h₃, tk₃, Ow', Tw', rfl, hX', K₃⟩ := h₂
    refine (hasg i d hd _ (Tw' ++ T) v).use (s := { s with heap := h₃, toks := tk₃ }) K₃ fun _ h₄ tk₄ K₄ => ?_
    refine (step i d hd hG Ow' (Tw' ++ T)).use (s := { s with heap := h₄, toks := tk₄ }) (K₄.perm List.perm_append_comm) fun f h₅ tk₅ K₅ => ?_
    have hlt : i < es.length := (List.getElem?_eq_some_iff.mp hd).1
    rcases K₅ with ⟨hf, hG', K₅⟩ | ⟨v, rfl, K₅⟩
    · have fin : ∃ m, m < es.length + 1 - i ∧ ∃ h' tk i Ow Tw, ({ s with heap := h₅, toks := tk₅ } : Shared) = { s with heap := h', toks := tk } ∧ i ≤ es.length ∧ m = es.length + 1 - i ∧ X i Ow Tw ∧ G i ∧ St prog w H a (ρ_ i) (Ow ++ O_ i) (Tw ++ T) h' :=
        ⟨es.length + 1 - (i + 1), by omega, h₅, tk₅, i + 1, Ow', Tw', rfl, hlt, rfl, hX', hG', K₅.perm List.perm_append_comm⟩
      rcases hf with rfl | rfl
      · exact fin
      · exact fin
    · exact hR _ _ _ (.inr ⟨v, rfl, hRv _ _ _ _ K₅⟩)
end
end Mine

namespace Mine

noncomputable def cloF (env : Env) : List (Str × NameKind) → List (Str × Addr) → List (Str × Addr)
  | [], acc => acc
  | (n, k) :: r, acc => if k == .free then cloF env r ((n, (env.cells.lookup n).getD 0) :: acc) else cloF env r acc
noncomputable def cloOk (scope : Scope) (env : Env) : Bool := scope.names.all fun x => x.2 != .free || ((env.cells.lookup x.1).isSome && env.kindOf x.1 == some .cell)
theorem cloF_eq {env : Env} : ∀ (l : List (Str × NameKind)) (acc : List (Str × Addr)), (l.all fun x => x.2 != .free || ((env.cells.lookup x.1).isSome && env.kindOf x.1 == some .cell)) = true →
    (forIn l acc fun (x : Str × NameKind) (r : List (Str × Addr)) => (match x with
      | (name, kind) => if (kind == NameKind.free) = true then do let c ← cellOf env name; pure (ForInStep.yield ((name, c) :: r)) else pure (ForInStep.yield r) : Sem (ForInStep (List (Str × Addr))))) = pure (cloF env l acc)
  | [], acc, _ => rfl
  | (n, k) :: r, acc, h => by
    rw [List.all_cons, Bool.and_eq_true] at h
    rw [List.forIn_cons]
    unfold cloF
    by_cases hk : (k == NameKind.free) = true
    · rw [if_pos hk]
      have hk' : k = .free := by simpa using hk
      have h1 := h.1
      rw [hk'] at h1
      simp only [bne_self_eq_false, Bool.false_or, Bool.and_eq_true] at h1
      obtain ⟨c, hc⟩ := Option.isSome_iff_exists.mp h1.1
      have e : cellOf env n = pure c := by unfold cellOf; rw [hc]
      dsimp only
      rw [if_pos hk, e, hc]
      exact cloF_eq r _ h.2
    · rw [if_neg hk]
      dsimp only
      rw [if_neg hk]
      exact cloF_eq r _ h.2
theorem closureFor_eq {scope : Scope} {env : Env} (h : cloOk scope env = true) : closureFor scope env = pure (cloF env scope.names []) := by
  unfold closureFor
  have := cloF_eq (env := env) scope.names [] h
  dsimp only
  rw [this]; rfl
theorem cloF_mem {env : Env} {x : Str} {c : Addr} : ∀ {l : List (Str × NameKind)} {acc : List (Str × Addr)}, (l.all fun x => x.2 != .free || ((env.cells.lookup x.1).isSome && env.kindOf x.1 == some .cell)) = true → (x, c) ∈ cloF env l acc → (x, c) ∈ acc ∨ (env.cells.lookup x = some c ∧ env.kindOf x = some .cell)
  | [], acc, _, h => .inl h
  | (n, k) :: r, acc, ha, h => by
    rw [List.all_cons, Bool.and_eq_true] at ha
    unfold cloF at h
    by_cases hk : (k == NameKind.free) = true
    · rw [if_pos hk] at h
      rcases cloF_mem ha.2 h with h | h
      · rcases List.mem_cons.mp h with e | h
        · have hk' : k = .free := by simpa using hk
          have h1 := ha.1
          rw [hk'] at h1
          simp only [bne_self_eq_false, Bool.false_or, Bool.and_eq_true] at h1
          obtain ⟨c', hc'⟩ := Option.isSome_iff_exists.mp h1.1
          cases e
          exact .inr ⟨by rw [hc']; rfl, by simpa using h1.2⟩
        · exact .inl h
      · exact .inr h
    · rw [if_neg hk] at h
      exact cloF_mem ha.2 h

section
variable {prog : Program} {w : World} {H : Heap} {A : Around} {a a' : Act} {ρ ρ' : Rho} {O O' O₁ Oe Ow Ow' Oz : List (Addr × OD)} {T T' Tn : List (Value × D)} {φ φ' : FM} {m m' : Str → Option Value} {h h' : Heap} {mg mb : Str → Option Value}

theorem Core.hide (q : Core prog w H a ρ (Ow ++ O) T φ m h) : Core prog w H a ρ O T φ m (hideAll h (Ow.map (·.1))) := by
  have hp := muts_append (a := a) (Ow := Ow) (Oz := O)
  have hnd := List.nodup_append.mp (hp.nodup_iff.mp q.nodup)
  have hne : ∀ b ∈ muts a O, b ∉ Ow.map (·.1) := fun b hb hc => hnd.2.2 b hc b hb rfl
  have hw : ∀ b ∈ Ow.map (·.1), φ b = none ∧ a.h₀.get? b = none := fun b hb => q.mutd b (hp.mem_iff.mpr (List.mem_append_left _ hb))
  have kh : ∀ b, (a.h₀.get? b).isSome → b ∉ Ow.map (·.1) := fun b hb hc => by rw [(hw b hc).2] at hb; cases hb
  have kp : ∀ b o, b ∉ Ow.map (·.1) → h.get? b = some o → (hideAll h (Ow.map (·.1))).get? b = some o := fun b o hb e => hideAll_get _ e hb
  refine { q with base := ?_, sub := ?_, ns := ?_, cells := ?_, own := ?_, nodup := hnd.2.1, mutd := ?_, names := ?_ }
  · intro b o e
    exact kp b o (kh b (by rw [e]; rfl)) (q.base b o e)
  · intro b o e
    exact kp b o (fun hc => by rw [(hw b hc).1] at e; cases e) (q.sub b o e)
  · obtain ⟨o, es, ep, ho, r⟩ := q.ns
    exact ⟨o, es, ep, kp _ _ (hne _ (.head _)) ho, r⟩
  · intro p hp
    obtain ⟨v, r⟩ := q.cells p hp
    exact ⟨v, IsCell.keep r (fun o => kp _ o (hne _ (.tail _ (List.mem_append_left _ (List.mem_map_of_mem hp)))))⟩
  · intro p hp
    obtain ⟨o, ho, r⟩ := q.own p (List.mem_append_right _ hp)
    exact ⟨o, kp _ o (hne _ (.tail _ (List.mem_append_right _ (List.mem_map_of_mem hp)))) ho, r⟩
  · intro b hb
    exact q.mutd b (hp.mem_iff.mpr (List.mem_append_right _ hb))
  · intro x b e
    refine (q.names x b e).keep (fun _ _ e => e) fun c hc o e => kp c o ?_ e
    rcases q.look x c hc with hc | hc
    · exact hne _ (.tail _ (List.mem_append_left _ (List.mem_map_of_mem hc)))
    · exact kh c hc

theorem Core.adopt {n : Addr} {o : Obj} (q : Core prog w H a ρ O T φ m h) (ho : h.get? n = some o) (h1 : φ n = none) (h2 : a.h₀.get? n = none) (h3 : n ∉ muts a O) : Core prog w H a ρ ((n, .raw o) :: O) T φ m h := by
  have hp : (muts a ((n, OD.raw o) :: O)).Perm (n :: muts a O) := muts_append (a := a) (Ow := [(n, OD.raw o)]) (Oz := O)
  refine { q with own := ?_, nodup := hp.nodup_iff.mpr (List.nodup_cons.mpr ⟨h3, q.nodup⟩), mutd := ?_ }
  · intro p hp
    rcases List.mem_cons.mp hp with rfl | hp
    · exact ⟨o, ho, rfl⟩
    · exact q.own p hp
  · intro b hb
    rcases List.mem_cons.mp (hp.mem_iff.mp hb) with rfl | hb
    · exact ⟨h1, h2⟩
    · exact q.mutd b hb

/-- an own object is lost: it may be anything now -/
theorem St.lose {n : Addr} {d : OD} (K : St prog w H a ρ ((n, d) :: O) T h) (hk : ∀ b o, b ≠ n → h.get? b = some o → h'.get? b = some o) : St prog w H a ρ O T h' := by
  obtain ⟨φ, m, q⟩ := K
  have q' := Core.hide (Ow := [(n, d)]) (O := O) q
  refine ⟨φ, m, q'.keep fun b o e => ?_⟩
  have hb : b ≠ n := fun e' => by
    have := hideAll_none [n] (h := h) (b := b) (by rw [e']; exact .head _)
    rw [show (List.map (·.1) [(n, d)]) = [n] from rfl, this] at e; cases e
  exact hk b o hb (of_hideAll _ e)

/-! the loop of a comprehension -/
noncomputable def testsT (ifs : List Expr) (env : Env) : Sem Bool := forIn ifs true fun c r => if r = true then do let ok ← isTrue c env (eval c env); pure (ForInStep.yield ok) else pure (ForInStep.yield r)
noncomputable def turnT (ipos : Pos) (target : Expr) (ifs : List Expr) (emit : Sem Unit) (again_ : Code) (it : Value) (env : Env) : Sem Fin := do
  standAt ipos
  match ← pyNext it with
  | none => pure (.done .next)
  | some v =>
    letOwnedTupleGo target it v
    assign target env v
    let ok ← testsT ifs env
    if ok then emit
    again again_

theorem tests_nil {env : Env} {P : Heap → Prop} : Tr prog w A (testsT [] env) P (fun ok h => ok = true ∧ P h) := Tr.of fun s R q h => wpAny_tests_nil (h _ s.heap s.toks ⟨rfl, q⟩)
theorem tests_one {c : Expr} {b : Bool} (x : Tt prog w H A a ρ O c b) : Tr prog w A (testsT [c] a.env) (St prog w H a ρ O T) (fun ok h => ok = b ∧ St prog w H a ρ O T h) :=
  Tr.of fun s R q h => wpAny_tests_one ((x T).use q fun v h' tk q' => h v h' tk q')

theorem comp_loop {e target : Expr} {depth : Nat} {acc : Value} {ipos : Pos} {ifs : List Expr} {emit : Sem Unit} {es : List D} {I : Addr} {X : Nat → List (Addr × OD) → List (Value × D) → Prop} {R : Result → Shared → Prop} (ρ0 : Rho) (ρb : Nat → Rho) (O_ : Nat → List (Addr × OD)) (p : Nat → Bool)
    (hu : A.under (.compLoop e depth (.ref I) acc a.env) = A) (hden : (model prog w).den (.compLoop e depth (.ref I) acc a.env) = (compTurn e depth (.ref I) acc a.env).onRaise (fun x => do noteFrame x a.env; theTreesLotGoes x)) (hqu : (Code.compLoop e depth (.ref I) acc a.env).quiet = true)
    (ht : compTurn e depth (.ref I) acc a.env = turnT ipos target ifs emit (.compLoop e depth (.ref I) acc a.env) (.ref I) a.env)
    (S : Src prog w H A target I es X Oe)
    (hasg : ∀ i d, es[i]? = some d → Asg prog w H A a target d ρ0 (ρb i)) (hsub : ∀ i x b, ρ0 x = some b → ρb i x = some b)
    (htest : ∀ i d, es[i]? = some d → ∀ O T, Tr prog w A (testsT ifs a.env) (St prog w H a (ρb i) O T) (fun ok h => ok = p i ∧ St prog w H a (ρb i) O T h))
    (hemit : ∀ i d, es[i]? = some d → p i = true → ∀ Oz T, Tr prog w A emit (St prog w H a (ρb i) (O_ i ++ Oz) T) (fun _ => St prog w H a (ρb i) (O_ (i + 1) ++ Oz) T))
    (hskip : ∀ i d, es[i]? = some d → p i = false → O_ (i + 1) = O_ i)
    (s : Shared) (hX : X 0 Ow T') (K : St prog w H a ρ0 (Ow ++ (O_ 0 ++ Oz)) (T' ++ T) s.heap)
    (hR : ∀ h' tk, St prog w H a ρ0 (Oe ++ (O_ es.length ++ Oz)) T h' → R (.ok .next) { s with heap := h', toks := tk }) :
    codeAny (model prog w) A (.compLoop e depth (.ref I) acc a.env) R s := by
  refine codeAny_loop hqu (fun n s' => ∃ h' tk i Ow Tw, s' = { s with heap := h', toks := tk } ∧ i ≤ es.length ∧ n = es.length + 1 - i ∧ X i Ow Tw ∧ St prog w H a ρ0 (Ow ++ (O_ i ++ Oz)) (Tw ++ T) h') ?_ (es.length + 1) ⟨s.heap, s.toks, 0, Ow, T', rfl, Nat.zero_le _, rfl, hX, K⟩
  rintro n s' ⟨h', tk, i, Ow, Tw, rfl, hi, rfl, hX, K⟩
  rw [hu, hden]
  refine wpAny_noted ?_
  rw [ht]
  refine wpAny_bind (wpAny_standAt (wpAny_bind (wpAny_mono (S.next a ρ0 (O_ i ++ Oz) T i Ow Tw _ hX K) (fun r s₁ h₁ => ?_) fun _ _ e => e.elim)))
  cases hd : es[i]? with
  | none =>
    rw [hd] at h₁
    obtain ⟨rfl, h₃, tk₃, rfl, K₃⟩ := h₁
    have hie : i = es.length := Nat.le_antisymm hi (by simpa using hd)
    subst hie
    exact wpAny_pure (hR _ _ K₃)
  | some d =>
    rw [hd] at h₁
    obtain ⟨v, rfl, h₁⟩ := h₁
    refine wpAny_bind (wpAny_mono h₁ (fun _ s₂ h₂ => ?_) fun _ _ e => e.elim)
    obtain ⟨h₃, tk₃, Ow', Tw', rfl, hX', K₃⟩ := h₂
    refine wpAny_bind ((hasg i d hd _ (Tw' ++ T) v).use (s := { s with heap := h₃, toks := tk₃ }) K₃ fun _ h₄ tk₄ K₄ => ?_)
    refine wpAny_bind ((htest i d hd _ (Tw' ++ T)).use (s := { s with heap := h₄, toks := tk₄ }) K₄ fun ok h₅ tk₅ K₅ => ?_)
    obtain ⟨rfl, K₅⟩ := K₅
    have hlt : i < es.length := (List.getElem?_eq_some_iff.mp hd).1
    have fin : ∀ h₆ tk₆, St prog w H a (ρb i) (Ow' ++ (O_ (i + 1) ++ Oz)) (Tw' ++ T) h₆ → ∃ m, m < es.length + 1 - i ∧ ∃ h' tk i Ow Tw, ({ s with heap := h₆, toks := tk₆ } : Shared) = { s with heap := h', toks := tk } ∧ i ≤ es.length ∧ m = es.length + 1 - i ∧ X i Ow Tw ∧ St prog w H a ρ0 (Ow ++ (O_ i ++ Oz)) (Tw ++ T) h' :=
      fun h₆ tk₆ K₆ => ⟨es.length + 1 - (i + 1), by omega, h₆, tk₆, i + 1, Ow', Tw', rfl, hlt, rfl, hX', K₆.forget (hsub i)⟩
    cases hp : p i with
    | true =>
      have hperm : (O_ i ++ (Ow' ++ Oz)).Perm (Ow' ++ (O_ i ++ Oz)) := by
        rw [← List.append_assoc, ← List.append_assoc]; exact List.Perm.append_right _ List.perm_append_comm
      have hperm' : (Ow' ++ (O_ (i + 1) ++ Oz)).Perm (O_ (i + 1) ++ (Ow' ++ Oz)) := by
        rw [← List.append_assoc, ← List.append_assoc]; exact List.Perm.append_right _ List.perm_append_comm
      simp only [if_true]
      refine wpAny_bind ((hemit i d hd hp (Ow' ++ Oz) (Tw' ++ T)).use (s := { s with heap := h₅, toks := tk₅ }) (K₅.perm hperm) fun _ h₆ tk₆ K₆ => ?_)
      exact wpAny_pure ⟨rfl, fin _ _ (K₆.perm hperm')⟩
    | false =>
      exact wpAny_pure ⟨rfl, fin _ _ (by rw [hskip i d hd hp]; exact K₅)⟩

theorem comp_start {e : Expr} {depth : Nat} {g : Comprehension} {it acc : Value} {env : Env} {R : Result → Shared → Prop} {s : Shared} (hg : (clausesOf e)[depth]? = some g) (ha : g.is_async = 0)
    (hu : A.under (.compStart e depth it acc env) = A) (hden : (model prog w).den (.compStart e depth it acc env) = (compStart e depth it acc env).onRaise (fun x => do noteFrame x env; standAt theWindowsPlace)) (hqu : (Code.compLoop e depth it acc env).quiet = true)
    (h0 : codeAny (model prog w) A (.compLoop e depth it acc env) R s) (h : wpAny (model prog w) A (pyIter it) (fun r s₁ => r = it ∧ s₁ = s) (fun _ _ => False) s) :
    codeAny (model prog w) A (.compStart e depth it acc env) R s := by
  refine codeAny_of_tree ?_
  rw [hu, hden]
  refine wpAny_notedAt ?_
  unfold compStart
  rw [hg]
  have e1 : ((some g).elim false fun x => x.is_async != 0) = false := by simp [ha]
  rw [e1]
  simp only [Bool.false_eq_true, if_false]
  show wpAny _ _ (ask >>= _) _ _ s
  refine wpAny_bind (wpAny_askSetting (wpAny_ite ?_))
  split
  · exact wpAny_pure (And.intro hqu h0)
  · refine wpAny_bind (wpAny_rule ?_)
    refine wpAny_bind (wpAny_standAt ?_)
    refine wpAny_bind (wpAny_mono h (fun it' s' h' => ?_) fun _ _ e => e.elim)
    obtain ⟨rfl, rfl⟩ := h'
    exact wpAny_pure (And.intro hqu h0)
end
end Mine

namespace Mine

noncomputable def capOk (scope : Scope) (env : Env) : Bool :=
  (scope.kind == .function) && (scope.names.all fun x => x.2 != .local || scope.names.lookup x.1 == some .local) && (scope.names.all fun x => x.2 != .cell) && cloOk scope env &&
  ((cloF env scope.names []).all fun p => (relabel scope env).names.lookup p.1 == some .cell)

noncomputable def cact (a : Act) (scope : Scope) (C : Addr) (Φ : FM) (h₀ : Heap) : Act := ⟨compEnvC scope (cloF a.env scope.names []) C a.env, [], Φ, h₀⟩
/-- the names that the comprehension sees -/
noncomputable def capRho (a : Act) (scope : Scope) (ρ : Rho) : Rho := fun x => if ((cloF a.env scope.names []).lookup x).isSome then ρ x else none

section
variable {prog : Program} {w : World} {H : Heap} {A : Around} {a a' : Act} {ρ ρ' : Rho} {O O' O₁ Oe Ow Ow' Oz : List (Addr × OD)} {T T' Tn : List (Value × D)} {φ φ' : FM} {m m' : Str → Option Value} {h h' : Heap} {mg mb : Str → Option Value}

theorem comp_base {e : Expr} {scope : Scope} {pos : Pos} {newAcc : Sem Value} {g : Comprehension} {gs : List Comprehension} {es : List D} {od0 od1 : OD} {d : D} {use : Option (Value → Sem Unit)} {Q : Value → Shared → Prop} {E : Value → Shared → Prop} {s : Shared}
    (hcl : clausesOf e = g :: gs) (hs : ∀ x, foldedSetIterable g.iter a.env x = pure x) (hok : capOk scope a.env = true)
    (hacc : ∀ (s : Shared) (R : Value → Shared → Prop), (∀ o, OwnIs prog w (fun _ => none) o od0 → (s.heap.push o).get? s.heap.objs.size = some o → R (.ref s.heap.objs.size) { s with heap := s.heap.push o }) → wpAny (model prog w) A newAcc R (fun _ _ => False) s)
    (it : EvIt prog w H A a ρ O O [] g.target g.iter es)
    (inner : ∀ C Φ h₀ Dd I X Ow Tw, Src prog w H A g.target I es X [] → X 0 Ow Tw → ∀ s : Shared, St prog w H (cact a scope C Φ h₀) (capRho a scope ρ) (Ow ++ [(Dd, od0)]) Tw s.heap →
      codeAny (model prog w) A (.compStart e 0 (.ref I) (.ref Dd) (cact a scope C Φ h₀).env) (fun r s' => r = .ok .next ∧ ∃ h' tk ρ' T', s' = { s with heap := h', toks := tk } ∧ St prog w H (cact a scope C Φ h₀) ρ' [(Dd, od1)] T' h') s)
    (hfr : ∀ (a' : Act) (ρ' : Rho) (T' : List (Value × D)) (h' : Heap) (Dd : Addr), (∀ b o, H.get? b = some o → b < Dd) → St prog w H a' ρ' [(Dd, od1)] T' h' → St prog w H a' ρ' [] ((.ref Dd, d) :: T') h')
    (K : St prog w H a ρ O T s.heap)
    (fin : ∀ C Dd h' tk oC, St prog w H a ρ ((C, .raw oC) :: O) ((.ref Dd, d) :: T) h' → (∃ m, h'.Ns C m) → compPost (model prog w) A E use Q (.ref Dd) C (.ok .next) { s with heap := h', toks := tk }) :
    wpAny (model prog w) A (comprehension e scope a.env pos newAcc false (eval g.iter a.env) use) Q E s := by
  unfold capOk at hok
  simp only [Bool.and_eq_true] at hok
  obtain ⟨⟨⟨⟨hk1, hk2⟩, hk3⟩, hk4⟩, hk5⟩ := hok
  have hkind : scope.kind = .function := by simpa using hk1
  have hnames : ∀ x ∈ scope.names, x.2 = .local → scope.names.lookup x.1 = some .local := fun x hx hl => by
    have := List.all_eq_true.mp hk2 x hx
    rw [hl] at this
    simpa using this
  have hcell : ∀ y ∈ scope.names, y.2 ≠ .cell := fun y hy e => by
    have := List.all_eq_true.mp hk3 y hy
    rw [e] at this
    simp at this
  refine wpAny_comprehension_free (cl := cloF a.env scope.names []) hcl hs (closureFor_eq hk4) hkind hnames ?_
  refine wpAny_mono (it T s K) (fun x s₁ h₁ => wpAny_mono h₁.2 (fun itv s₂ h₂ => ?_) fun _ _ e => e.elim) fun _ _ e => e.elim
  obtain ⟨h₂, tk₂, rfl, I, X, Ow, Tw, rfl, S, hX, φ₂, m, q₂⟩ := h₂
  refine wpAny_mono (hacc _ (fun acc s₃ => wpAny (model prog w) A (newFunctionEnv scope a.env.globals (cloF a.env scope.names []) [] a.env.qual .none .none (some a.env)) (fun cenv s₄ =>
        codeAny (model prog w) A (.compStart e 0 (.ref I) acc { cenv with scope := relabel scope a.env }) (compPost (model prog w) A E use Q acc cenv.locals) s₄) E s₃) fun o ho hog => ?_) (fun _ _ q => q) fun _ _ e => e.elim
  refine wpAny_newFunctionEnv hcell (by intro y hy; simp at hy) (fun h₁ hns hsb => ?_) hkind
  dsimp only at hns hsb hog ⊢
  -- addresses
  have hfresh : ∀ b, h₂.objs.size ≤ b → h₂.get? b = none := fun b hb => by
    cases e : h₂.get? b with
    | none => rfl
    | some o => exact absurd (Heap.lt_size e) (Nat.not_lt.mpr hb)
  have hC : (h₂.push o).objs.size = h₂.objs.size + 1 := Heap.size_push ..
  have kp : Keep h₂ h₁ := fun b ob e => hsb.extBut b ob (by rw [hC]; exact Nat.ne_of_lt (Nat.lt_succ_of_lt (Heap.lt_size e))) (Heap.get?_push_of_some _ (Heap.get?_push_of_some _ e))
  have hD1 : h₁.get? h₂.objs.size = some o := hsb.extBut _ o (by rw [hC]; exact Nat.ne_of_lt (Nat.lt_succ_self _)) (Heap.get?_push_of_some _ hog)
  have hq₂ := Core.hide q₂
  have alive := muts_alive q₂
  have hmp := muts_append (a := a) (Ow := Ow) (Oz := O)
  have hOwm : ∀ b ∈ Ow.map (·.1), b ∈ muts a (Ow ++ O) := fun b hb => hmp.mem_iff.mpr (List.mem_append_left _ hb)
  have hOwlt : ∀ b ∈ Ow.map (·.1), b < h₂.objs.size := fun b hb => by
    obtain ⟨o', e⟩ := alive b (hOwm b hb)
    exact Heap.lt_size e
  have hOnd := List.nodup_append.mp (hmp.nodup_iff.mp q₂.nodup)
  have hsub : ∀ b o', (hideAll h₂ (Ow.map (·.1))).get? b = some o' → h₂.get? b = some o' := fun b o' e => of_hideAll _ e
  have hnone : ∀ b, h₂.get? b = none → (hideAll h₂ (Ow.map (·.1))).get? b = none := fun b hb => by
    cases e : (hideAll h₂ (Ow.map (·.1))).get? b with
    | none => rfl
    | some o' => rw [hsub b o' e] at hb; cases hb
  have hDn := hfresh h₂.objs.size (Nat.le_refl _)
  have hCn := hfresh (h₂.objs.size + 1) (Nat.le_succ _)
  -- the inner state
  have q1 : Core prog w H (cact a scope (h₂.objs.size + 1) φ₂ (hideAll h₂ (Ow.map (·.1)))) (capRho a scope ρ) (Ow ++ [(h₂.objs.size, od0)]) (Tw ++ []) φ₂ (fun x => ([] : List (Str × Value)).reverse.lookup x) h₁ := by
    refine { wb := hq₂.wb.trans hq₂.base, base := fun b o' e => kp b o' (hsub b o' e), ext := fun _ _ e => e, sub := fun b o' e => kp b o' (q₂.sub b o' e), new := fun b o' e => .inl e, ns := by rw [hC] at hns; exact hns, fn := hkind, gl := q₂.gl, bl := q₂.bl, look := ?_, cells := (fun p hp => nomatch hp), own := ?_, nodup := ?_, mutd := ?_, names := ?_, temps := ?_ }
    · intro x c hc
      right
      have hmem := cloF_mem hk4 (mem_of_lookup hc)
      rcases hmem with hm | ⟨hm, _⟩
      · cases hm
      · rcases hq₂.look x c hm with hl | hl
        · obtain ⟨v, o', ho', _⟩ := hq₂.cells _ hl
          show ((hideAll h₂ (Ow.map (·.1))).get? c).isSome = true
          rw [ho']; rfl
        · obtain ⟨o', ho'⟩ := Option.isSome_iff_exists.mp hl
          show ((hideAll h₂ (Ow.map (·.1))).get? c).isSome = true
          rw [hq₂.base c o' ho']; rfl
    · intro p hp
      rcases List.mem_append.mp hp with hp | hp
      · obtain ⟨o', ho', r⟩ := q₂.own p (List.mem_append_left _ hp)
        exact ⟨o', kp _ o' ho', r⟩
      · rw [List.mem_singleton] at hp
        subst hp
        exact ⟨o, hD1, ho.mono fun b o' e => absurd e (by simp)⟩
    · show ((h₂.objs.size + 1) :: ([] ++ (Ow ++ [(h₂.objs.size, od0)]).map (·.1))).Nodup
      rw [List.nil_append, List.map_append]
      refine List.nodup_cons.mpr ⟨fun hm => ?_, List.nodup_append.mpr ⟨hOnd.1, by simp, ?_⟩⟩
      · rcases List.mem_append.mp hm with hm | hm
        · exact absurd (hOwlt _ hm) (by omega)
        · simp at hm
      · intro b hb c hc
        simp at hc
        subst hc
        exact Nat.ne_of_lt (hOwlt b hb)
    · intro b hb
      have hb' : b = h₂.objs.size + 1 ∨ b ∈ Ow.map (·.1) ∨ b = h₂.objs.size := by
        rcases List.mem_cons.mp hb with hb | hb
        · exact .inl hb
        · have hb : b ∈ (Ow ++ [(h₂.objs.size, od0)]).map (·.1) := hb
          rw [List.map_append] at hb
          rcases List.mem_append.mp hb with hb | hb
          · exact .inr (.inl hb)
          · exact .inr (.inr (by simpa using hb))
      rcases hb' with rfl | hb | rfl
      · exact ⟨q₂.phi_free hCn, hnone _ hCn⟩
      · exact ⟨(q₂.mutd b (hOwm b hb)).1, hideAll_none _ hb⟩
      · exact ⟨q₂.phi_free hDn, hnone _ hDn⟩
    · intro x b e
      unfold capRho at e
      by_cases hx : ((cloF a.env scope.names []).lookup x).isSome = true
      · rw [if_pos hx] at e
        obtain ⟨c, hc⟩ := Option.isSome_iff_exists.mp hx
        have hm := mem_of_lookup hc
        rcases cloF_mem hk4 hm with hm' | ⟨hm', hkc⟩
        · cases hm'
        · obtain ⟨v, hv, r⟩ := q₂.names x b e
          refine ⟨v, hv, .inr ⟨.inl ?_, c, hc, ?_⟩⟩
          · have := List.all_eq_true.mp hk5 _ hm
            show (relabel scope a.env).names.lookup x = some .cell
            simpa using this
          · rcases r with ⟨r, _⟩ | ⟨_, c', hc', hi⟩
            · rw [hkc] at r; cases r
            · rw [hm'] at hc'
              cases hc'
              exact IsCell.keep hi (kp c)
      · rw [if_neg hx] at e; cases e
    · intro p hp
      exact q₂.temps p (by rw [List.append_nil] at hp; exact List.mem_append_left _ hp)
  have hcode := inner (h₂.objs.size + 1) φ₂ (hideAll h₂ (Ow.map (·.1))) h₂.objs.size I X Ow Tw S hX { s with heap := h₁, toks := tk₂ + ([] : List (Str × Value)).length } ⟨φ₂, _, by rw [List.append_nil] at q1; exact q1⟩
  have henv : ({ newEnv scope (h₂.push o).objs.size a.env.globals (cloF a.env scope.names []) a.env.qual .none .none (some a.env) builtinsNs with scope := relabel scope a.env } : Env) = (cact a scope (h₂.objs.size + 1) φ₂ (hideAll h₂ (Ow.map (·.1)))).env := by rw [hC]; rfl
  have hloc : (newEnv scope (h₂.push o).objs.size a.env.globals (cloF a.env scope.names []) a.env.qual .none .none (some a.env) builtinsNs).locals = h₂.objs.size + 1 := hC
  refine codeAny_mono (henv ▸ hcode) fun r s' hr => ?_
  obtain ⟨rfl, h', tk, ρ', T', rfl, Ki⟩ := hr
  obtain ⟨φ', m', q'⟩ := hfr _ _ _ _ _ (fun b o e => Heap.lt_size (hsub _ _ ((hq₂.wb.trans hq₂.base) b o e))) Ki
  obtain ⟨oC, hoC⟩ := muts_alive q' (h₂.objs.size + 1) (.head _)
  have hCm := q'.mutd (h₂.objs.size + 1) (.head _)
  have qb := Core.back hq₂ q' rfl rfl (.head _)
  have hCnm : (h₂.objs.size + 1) ∉ muts a O := fun hm => by
    obtain ⟨o', e⟩ := muts_alive hq₂ _ hm
    rw [hnone _ hCn] at e; cases e
  have qc := Core.adopt qb hoC hCm.1 (hq₂.base_free (hnone _ hCn)) hCnm
  rw [hloc]
  refine fin (h₂.objs.size + 1) h₂.objs.size h' tk oC ⟨φ', m, { qc with temps := ?_ }⟩ ⟨_, q'.ns⟩
  intro p hp
  rcases List.mem_cons.mp hp with rfl | hp
  · exact qc.temps _ (.head _)
  · exact qc.temps _ (.tail _ (List.mem_append_right _ hp))

theorem acc_list (s : Shared) (R : Value → Shared → Prop) (h : ∀ o, OwnIs prog w (fun _ => none) o (.list []) → (s.heap.push o).get? s.heap.objs.size = some o → R (.ref s.heap.objs.size) { s with heap := s.heap.push o }) : wpAny (model prog w) A (newList []) R (fun _ _ => False) s :=
  wpAny_newList (h (listOf (List.toArray []) 0) ⟨[], 0, rfl, .nil⟩ (Heap.get?_push_size _ rfl)) (by decide)

theorem list_ext {α : Type} {f g : Nat → α} {n : Nat} (h : ∀ i, i < n → f i = g i) : (List.range n).map f = (List.range n).map g := by
  apply List.map_congr_left
  intro i hi
  exact h i (List.mem_range.mp hi)

/-- what the first i items give -/
noncomputable def emitted (p : Nat → Bool) (f : Nat → D) (i : Nat) : List D := ((List.range i).filter p).map f
theorem emitted_succ (p : Nat → Bool) (f : Nat → D) (i : Nat) : emitted p f (i + 1) = if p i then emitted p f i ++ [f i] else emitted p f i := by
  unfold emitted
  rw [List.range_succ, List.filter_append, List.map_append]
  cases h : p i <;> simp [h]
theorem emitted_len (p : Nat → Bool) (f : Nat → D) (i : Nat) : (emitted p f i).length ≤ i := by
  unfold emitted
  rw [List.length_map]
  exact Nat.le_trans (List.length_filter_le _ _) (by rw [List.length_range]; exact Nat.le_refl _)

/-- what a comprehension with one clause needs of its parts -/
structure CompOf (prog : Program) (w : World) (H : Heap) (A : Around) (a : Act) (ρ : Rho) (scope : Scope) (target : Expr) (ifs : List Expr) (elt : Expr) (es : List D) (p : Nat → Bool) (f : Nat → D) : Prop where
  parts : ∀ i d, es[i]? = some d → ∃ ρb : Rho, (∀ x b, capRho a scope ρ x = some b → ρb x = some b) ∧ ∀ C Φ h₀, Asg prog w H A (cact a scope C Φ h₀) target d (capRho a scope ρ) ρb ∧
    (∀ O T, Tr prog w A (testsT ifs (cact a scope C Φ h₀).env) (St prog w H (cact a scope C Φ h₀) ρb O T) (fun ok h => ok = p i ∧ St prog w H (cact a scope C Φ h₀) ρb O T h)) ∧
    (p i = true → ∀ O, Ev prog w H A (cact a scope C Φ h₀) ρb O elt (f i))

theorem listcomp_inner {elt target iter : Expr} {ifs : List Expr} {scope : Scope} {pos : Pos} {es : List D} {p : Nat → Bool} {f : Nat → D} (hsz : es.length ≤ sizeLine) (X₀ : CompOf prog w H A a ρ scope target ifs elt es p f)
    {C : Addr} {Φ : FM} {h₀ : Heap} {Dd I : Addr} {X : Nat → List (Addr × OD) → List (Value × D) → Prop} {Tw : List (Value × D)} (S : Src prog w H A target I es X []) (hX : X 0 Ow Tw) (s : Shared)
    (K : St prog w H (cact a scope C Φ h₀) (capRho a scope ρ) (Ow ++ [(Dd, .list [])]) Tw s.heap) :
    codeAny (model prog w) A (.compStart (.ListComp elt [⟨target, iter, ifs, 0⟩] scope pos) 0 (.ref I) (.ref Dd) (cact a scope C Φ h₀).env)
      (fun r s' => r = .ok .next ∧ ∃ h' tk ρ' T', s' = { s with heap := h', toks := tk } ∧ St prog w H (cact a scope C Φ h₀) ρ' [(Dd, .list (emitted p f es.length))] T' h') s := by
  have hch : ∀ i, ∃ ρb : Rho, ∀ d, es[i]? = some d → (∀ x b, capRho a scope ρ x = some b → ρb x = some b) ∧ ∀ C Φ h₀, Asg prog w H A (cact a scope C Φ h₀) target d (capRho a scope ρ) ρb ∧
    (∀ O T, Tr prog w A (testsT ifs (cact a scope C Φ h₀).env) (St prog w H (cact a scope C Φ h₀) ρb O T) (fun ok h => ok = p i ∧ St prog w H (cact a scope C Φ h₀) ρb O T h)) ∧
    (p i = true → ∀ O, Ev prog w H A (cact a scope C Φ h₀) ρb O elt (f i)) := fun i => by
    cases hd : es[i]? with
    | none => exact ⟨fun _ => none, fun d e => nomatch e⟩
    | some d =>
      obtain ⟨ρb, hb⟩ := X₀.parts i d hd
      exact ⟨ρb, fun d' e => by cases e; exact hb⟩
  have K' : St prog w H (cact a scope C Φ h₀) (capRho a scope ρ) (Ow ++ ([(Dd, OD.list (emitted p f 0))] ++ [])) (Tw ++ []) s.heap := by
    rw [List.append_nil, List.append_nil]; exact K
  refine comp_start rfl rfl rfl rfl rfl ?_ (S.self _ _ _ _ 0 Ow Tw s hX K')
  have hρ : ∀ i, ∃ ρb : Rho, (∀ x b, capRho a scope ρ x = some b → ρb x = some b) ∧ ∀ d, es[i]? = some d → ∀ C Φ h₀, Asg prog w H A (cact a scope C Φ h₀) target d (capRho a scope ρ) ρb ∧
    (∀ O T, Tr prog w A (testsT ifs (cact a scope C Φ h₀).env) (St prog w H (cact a scope C Φ h₀) ρb O T) (fun ok h => ok = p i ∧ St prog w H (cact a scope C Φ h₀) ρb O T h)) ∧
    (p i = true → ∀ O, Ev prog w H A (cact a scope C Φ h₀) ρb O elt (f i)) := fun i => by
    cases hd : es[i]? with
    | none => exact ⟨capRho a scope ρ, fun _ _ e => e, fun d e => nomatch e⟩
    | some d =>
      obtain ⟨ρb, h1, h2⟩ := X₀.parts i d hd
      exact ⟨ρb, h1, fun d' e => by cases e; exact h2⟩
  let ρb : Nat → Rho := fun i => (hρ i).choose
  have hρb : ∀ i, (∀ x b, capRho a scope ρ x = some b → ρb i x = some b) ∧ ∀ d, es[i]? = some d → ∀ C Φ h₀, Asg prog w H A (cact a scope C Φ h₀) target d (capRho a scope ρ) (ρb i) ∧
    (∀ O T, Tr prog w A (testsT ifs (cact a scope C Φ h₀).env) (St prog w H (cact a scope C Φ h₀) (ρb i) O T) (fun ok h => ok = p i ∧ St prog w H (cact a scope C Φ h₀) (ρb i) O T h)) ∧
    (p i = true → ∀ O, Ev prog w H A (cact a scope C Φ h₀) (ρb i) O elt (f i)) := fun i => (hρ i).choose_spec
  refine comp_loop (ipos := iter.pos) (ifs := ifs) (target := target) (emit := (do let _ ← call (.builtin "list.append") [.ref Dd, ← eval elt (cact a scope C Φ h₀).env])) (capRho a scope ρ) ρb (fun i => [(Dd, OD.list (emitted p f i))]) p rfl rfl rfl ?_ S
    (fun i d hd => ((hρb i).2 d hd C Φ h₀).1) (fun i => (hρb i).1) (fun i d hd => ((hρb i).2 d hd C Φ h₀).2.1) ?_ ?_ s hX K' ?_
  · exact compTurn_list ..
  · intro i d hd hp Oz T
    have hev := ((hρb i).2 d hd C Φ h₀).2.2 hp
    refine Tr.of fun s R q hR => ?_
    refine wpAny_bind ((hev _ T).use q fun v h' tk q1 => wpAny_bind ?_)
    have hlt : i < es.length := (List.getElem?_eq_some_iff.mp hd).1
    refine (own_append (n := Dd) (ds := emitted p f i) (Nat.le_trans (emitted_len p f i) (Nat.le_trans (Nat.le_of_lt hlt) hsz))).use (s := { s with heap := h', toks := tk }) q1 fun r h'' tk' q2 => wpAny_pure (hR _ _ _ ?_)
    have := q2.2
    rw [show emitted p f (i + 1) = emitted p f i ++ [f i] by rw [emitted_succ, hp]; rfl]
    exact this
  · intro i d hd hp
    have : emitted p f (i + 1) = emitted p f i := by rw [emitted_succ, hp]; rfl
    simp only [this]
  · intro h' tk K₂
    exact ⟨rfl, h', tk, _, _, rfl, by simpa using K₂⟩

theorem Ev.listcomp {elt target iter : Expr} {ifs : List Expr} {scope : Scope} {pos : Pos} {es : List D} {p : Nat → Bool} {f : Nat → D} (it : EvIt prog w H A a ρ O O [] target iter es) (X : CompOf prog w H A a ρ scope target ifs elt es p f)
    (hsz : es.length ≤ sizeLine) (hok : capOk scope a.env = true := by rfl) (hs : ∀ x, foldedSetIterable iter a.env x = pure x := by intro _; rfl) : Ev prog w H A a ρ O (.ListComp elt [⟨target, iter, ifs, 0⟩] scope pos) (.list (emitted p f es.length)) :=
  fun T => Tr.of fun s R K hR => by
    rw [eval_ListComp]
    refine comp_base (g := ⟨target, iter, ifs, 0⟩) (gs := []) (use := none) (od0 := .list []) (od1 := .list (emitted p f es.length)) (d := .list (emitted p f es.length)) rfl hs hok acc_list it
      (fun C Φ h₀ Dd I X' Ow Tw S hX s K => listcomp_inner hsz X S hX s K) (fun a' ρ' T' h' Dd _ K => K.freeze) K ?_
    intro C Dd h' tk oC K' hns
    obtain ⟨m, hm⟩ := hns
    exact ⟨m, hm, fun h'' hs'' => hR _ _ _ (St.lose K' fun b o hb e => (hs''.2 b hb).trans e)⟩

/-- x = [.. for ..], stored before the comprehension's names go -/
theorem ex_assign_comp {x : Str} {px : Pos} {elt target iter : Expr} {ifs : List Expr} {scope : Scope} {pos spos : Pos} {es : List D} {p : Nat → Bool} {f : Nat → D} (it : EvIt prog w H A a ρ O O [] target iter es) (X : CompOf prog w H A a ρ scope target ifs elt es p f)
    (hsz : es.length ≤ sizeLine) (hst : Storable a x) (hok : capOk scope a.env = true := by rfl) (hs : ∀ x, foldedSetIterable iter a.env x = pure x := by intro _; rfl)
    (hsw : swapsWith (.ListComp elt [⟨target, iter, ifs, 0⟩] scope pos) (some (.Name x px)) spos.line a.env = pure true := by rfl) :
    Tr prog w A (exec (.Assign [.Name x px] (.ListComp elt [⟨target, iter, ifs, 0⟩] scope pos) spos) a.env) (St prog w H a ρ O T) (Nx (St prog w H a (upd ρ x (.val (.list (emitted p f es.length)))) O T)) :=
  Tr.of fun s R K hR => by
    rw [exec_Assign_Name_used _ _ _ _ hsw]
    refine wpAny_bind (wpAny_standAt (wpAny_bind ?_))
    show wpAny _ A (do let _ ← comprehension (.ListComp elt [⟨target, iter, ifs, 0⟩] scope pos) scope a.env _ (newList []) false (eval iter a.env) (some (assign (.Name x px) a.env))) _ _ s
    refine wpAny_bind (wpAny_mono (comp_base (Q := fun _ s' => R .next s') (E := fun _ _ => False) (g := ⟨target, iter, ifs, 0⟩) (gs := []) (use := some (assign (.Name x px) a.env)) (od0 := .list []) (od1 := .list (emitted p f es.length)) (d := .list (emitted p f es.length)) rfl hs hok acc_list it
      (fun C Φ h₀ Dd I X' Ow Tw S hX s K => listcomp_inner hsz X S hX s K) (fun a' ρ' T' h' Dd _ K => K.freeze) K ?_) (fun _ s' hq => wpAny_pure (wpAny_pure hq)) fun _ _ e => e.elim)
    intro C Dd h' tk oC K' hns
    obtain ⟨m, oN, es', ep', hoN, hr⟩ := hns
    show wpAny _ A (assign (.Name x px) a.env (.ref Dd)) _ _ _
    have hoC : oN = oC := by
      obtain ⟨φ, m, q⟩ := K'
      obtain ⟨o', ho', e⟩ := q.own _ (.head _)
      have : o' = oC := e
      rw [hoN] at ho'
      rw [← this]; exact Option.some.inj ho'
    refine wpAny_assign_Name (storeB (b := .val (.list (emitted p f es.length))) K' hst (fun φ hT => hT _ (.head _)) fun h'' tk' K'' => ?_)
    have hoC'' : h''.get? C = some oN := by
      obtain ⟨φ, m, q⟩ := K''
      obtain ⟨o', ho', e⟩ := q.own _ (.head _)
      have : o' = oC := e
      rw [hoC, ← this]; exact ho'
    exact ⟨m, ⟨oN, es', ep', hoC'', hr⟩, fun h₃ hs₃ => hR _ _ _ ⟨rfl, (St.lose K'' fun b o hb e => (hs₃.2 b hb).trans e).tail⟩⟩
end
end Mine

namespace Mine

section
variable {prog : Program} {w : World} {H : Heap} {A : Around} {a a' : Act} {ρ ρ' : Rho} {O O' O₁ Oe Ow Ow' Oz : List (Addr × OD)} {T T' Tn Tw : List (Value × D)} {φ φ' : FM} {m m' : Str → Option Value} {h h' : Heap} {mg mb : Str → Option Value}

noncomputable def atD (h : Heap) (b : Addr) : Obj := match h.get? b with | some o => o | none => emptyDict
noncomputable def raws (h : Heap) (wr : List Addr) : List (Addr × OD) := wr.map fun b => (b, .raw (atD h b))
theorem raws_fst (h : Heap) (wr : List Addr) : (raws h wr).map (·.1) = wr := by
  unfold raws
  rw [List.map_map]
  exact List.map_id' _
theorem atD_of {h : Heap} {b : Addr} {o : Obj} (e : h.get? b = some o) : atD h b = o := by unfold atD; rw [e]

theorem mem_raws {h : Heap} {wr : List Addr} {p : Addr × OD} (hp : p ∈ raws h wr) : p.1 ∈ wr ∧ p.2 = .raw (atD h p.1) := by
  obtain ⟨b, hb, rfl⟩ := List.mem_map.mp hp
  exact ⟨hb, rfl⟩

/-- the source's things are as they were in hi -/
structure Trk (hi : Heap) (fp wr : List Addr) (Tw : List (Value × D)) : Prop where
  live : ∀ b ∈ wr, ∃ o, hi.get? b = some o
  rest : ∀ b ∈ fp, b ∉ wr → ∃ o, hi.get? b = some o ∧ ((.ref b : Value), D.raw o) ∈ Tw

theorem Trk.here {hi : Heap} {fp wr : List Addr} (k : Trk hi fp wr Tw) (K : St prog w H a ρ (raws hi wr ++ O) (Tw ++ T) h) : ∀ b ∈ fp, ∀ o, hi.get? b = some o → h.get? b = some o := by
  intro b hb o e
  obtain ⟨φ, m, q⟩ := K
  by_cases hw : b ∈ wr
  · obtain ⟨o', ho', r⟩ := q.own (b, .raw (atD hi b)) (List.mem_append_left _ (List.mem_map.mpr ⟨b, hw, rfl⟩))
    have : o' = atD hi b := r
    rw [atD_of e] at this
    rw [← this]; exact ho'
  · obtain ⟨o', ho', r⟩ := k.rest b hb hw
    have := q.temps _ (List.mem_append_left _ r)
    obtain ⟨_, e0, e'⟩ := this.inv
    cases e0
    · rw [ho'] at e
      cases e
      exact q.sub _ _ e'

theorem St.moved {hi : Heap} {wr : List Addr} (K : St prog w H a ρ (raws hi wr ++ O) T h) (F : FM) (hF : ∀ b o, F b = some o → h.get? b = none ∧ h'.get? b = some o) (hk : ∀ b o, b ∉ wr → h.get? b = some o → h'.get? b = some o) (hal : ∀ b ∈ wr, ∃ o, h'.get? b = some o)
    (hT : ∀ φ' : FM, (∀ p ∈ T, Rd prog w φ' p.1 p.2) → (∀ b o, F b = some o → φ' b = some o) → ∀ p ∈ Tn, Rd prog w φ' p.1 p.2) : St prog w H a ρ (raws h' wr ++ O) (Tn ++ T) h' := by
  refine St.step K (by rw [raws_fst, raws_fst]) (by rw [raws_fst]; exact hk) F hF ?_ (fun φ' h1 h2 _ => hT φ' h1 h2)
  intro φ' _ _ _ p hp
  obtain ⟨h1, h2⟩ := mem_raws hp
  obtain ⟨o, ho⟩ := hal _ h1
  exact ⟨o, ho, by rw [h2]; exact (atD_of ho).symm⟩

theorem St.dropAll : ∀ {Ow : List (Addr × OD)}, St prog w H a ρ (Ow ++ O) T h → St prog w H a ρ O T h
  | [], K => K
  | p :: Ow, K => St.dropAll (Ow := Ow) (St.drop K)

theorem Src.ofWalks {target : Expr} {I : Addr} {fp wr : List Addr} {n : Nat} {P : Nat → Value → Prop} {WS : Nat → Heap → Prop} {es : List D} (W : Walks prog w A I fp wr n P WS) (hn : n = es.length)
    (hlive : ∀ i h, WS i h → ∀ b ∈ wr, ∃ o, h.get? b = some o)
    (hgo : ∀ i (s : Shared) v (Q : Unit → Shared → Prop), WS i s.heap → Q () s → wpAny (model prog w) A (letOwnedTupleGo target (.ref I) v) Q (fun _ _ => False) s)
    (hP : ∀ i v d, P i v → es[i]? = some d → ∀ φ : FM, (∀ p ∈ Tw, Rd prog w φ p.1 p.2) → Rd prog w φ v d) :
    Src prog w H A target I es (fun i Ow T => ∃ hi, WS i hi ∧ Trk hi fp wr Tw ∧ i ≤ es.length ∧ Ow = raws hi wr ∧ T = Tw) [] where
  next := by
    rintro a ρ O T i Ow Tw' s ⟨hi, hWS, hTk, hle, rfl, rfl⟩ K
    have hst := W.frame i hi s.heap hWS (hTk.here K)
    by_cases hlt : i < n
    · have hd : es[i]? = some (es[i]'(hn ▸ hlt)) := List.getElem?_eq_getElem (hn ▸ hlt)
      refine W.item i s _ _ hlt hst fun v h' tk hPv hst' hk => ?_
      rw [hd]
      refine ⟨v, rfl, hgo (i + 1) _ v _ hst' ?_⟩
      have hal := hlive _ _ hst'
      refine ⟨h', tk, raws h' wr, _, rfl, ⟨h', hst', ⟨hal, fun b hb hw => ?_⟩, hn ▸ hlt, rfl, rfl⟩, ?_⟩
      · obtain ⟨o, ho, hm⟩ := hTk.rest b hb hw
        exact ⟨o, hk b o hw (hTk.here K b hb o ho), hm⟩
      · have := St.moved (Tn := [(v, es[i]'(hn ▸ hlt))]) K (fun _ => none) (fun _ _ e => nomatch e) hk hal (fun φ' hT _ p hp => by
          rw [List.mem_singleton] at hp
          subst hp
          exact hP i v _ hPv hd φ' fun p hp => hT p (List.mem_append_left _ hp))
        exact this
    · have hie : i = n := Nat.le_antisymm (hn ▸ hle) (Nat.le_of_not_lt hlt)
      subst hie
      have hd : es[i]? = none := List.getElem?_eq_none (by omega)
      refine W.done s _ _ hst fun h' tk hk => ?_
      rw [hd]
      refine ⟨rfl, h', tk, rfl, ?_⟩
      obtain ⟨φ, m, q⟩ := K
      have q' := Core.hide (Ow := raws hi wr) (O := O) q
      refine St.sub ⟨φ, m, q'.keep fun b o e => ?_⟩ (fun p hp => List.mem_append_right _ hp)
      have hb : b ∉ wr := fun e' => by
        have := hideAll_none ((raws hi wr).map (·.1)) (h := s.heap) (b := b) (by rw [raws_fst]; exact e')
        rw [this] at e; cases e
      exact hk b o hb (of_hideAll _ e)
  self := by
    rintro a ρ O T i Ow Tw' s ⟨hi, hWS, hTk, hle, rfl, rfl⟩ K
    exact W.self i s _ _ (W.frame i hi s.heap hWS (hTk.here K)) ⟨rfl, rfl⟩

theorem Src.ofWalksT {elts : List Expr} {k : Nat} {pos : Pos} {I : Addr} {fp wr : List Addr} {n : Nat} {Pt : Nat → Array Value → Prop} {WS : Nat → Heap → Prop} {Mid : Nat → Addr → Heap → Prop} {es : List D} (W : WalksT prog w A I fp wr n Pt WS Mid) (hn : n = es.length)
    (hlive : ∀ i h, WS i h → ∀ b ∈ wr, ∃ o, h.get? b = some o)
    (hP : ∀ i vals d, Pt i vals → es[i]? = some d → ∃ ds, d = .tupg ds ∧ ∀ φ : FM, (∀ p ∈ Tw, Rd prog w φ p.1 p.2) → RdAll prog w φ vals.toList ds) :
    Src prog w H A (.Tuple elts k pos) I es (fun i Ow T => ∃ hi, WS i hi ∧ Trk hi fp wr Tw ∧ i ≤ es.length ∧ Ow = raws hi wr ∧ T = Tw) [] where
  next := by
    rintro a ρ O T i Ow Tw' s ⟨hi, hWS, hTk, hle, rfl, rfl⟩ K
    have hst := W.frame i hi s.heap hWS (hTk.here K)
    by_cases hlt : i < n
    · have hd : es[i]? = some (es[i]'(hn ▸ hlt)) := List.getElem?_eq_getElem (hn ▸ hlt)
      refine W.item i s _ _ hlt hst fun Tu vals h' tk hPv hge htu hmid hk => ?_
      rw [hd]
      refine ⟨.ref Tu, rfl, W.go elts k pos i Tu _ _ _ hmid fun h'' hst' hk' => ?_⟩
      have hap := W.apart i Tu h' hmid
      have hal := hlive _ _ hst'
      obtain ⟨o, ho, hc, nn, hdat⟩ := htu
      have ho'' : h''.get? Tu = some o := hk' Tu o hap ho
      have hkk : ∀ b o, b ∉ wr → s.heap.get? b = some o → h''.get? b = some o := fun b o hb e => hk' b o hb (hk b o hb e)
      have hfr : s.heap.get? Tu = none := by
        cases e : s.heap.get? Tu with
        | none => rfl
        | some o' => exact absurd (Heap.lt_size e) (Nat.not_lt.mpr hge)
      obtain ⟨ds, hds, hrd⟩ := hP i vals _ hPv hd
      refine ⟨h'', tk, raws h'' wr, _, rfl, ⟨h'', hst', ⟨hal, fun b hb hw => ?_⟩, hn ▸ hlt, rfl, rfl⟩, ?_⟩
      · obtain ⟨o, ho, hm⟩ := hTk.rest b hb hw
        exact ⟨o, hkk b o hw (hTk.here K b hb o ho), hm⟩
      · have := St.moved (Tn := [(.ref Tu, es[i]'(hn ▸ hlt))]) K (fun b => if b = Tu then some o else none) (fun b o' e => by
          split at e <;> cases e
          rename_i hb
          subst hb
          exact ⟨hfr, ho''⟩) hkk hal (fun φ' hT hF p hp => by
          rw [List.mem_singleton] at hp
          subst hp
          rw [hds]
          exact .tupg (vs := vals.toList) (hF Tu o (if_pos rfl)) hc (by simpa using hdat) (hrd φ' fun p hp => hT p (List.mem_append_left _ hp)))
        exact this
    · have hie : i = n := Nat.le_antisymm (hn ▸ hle) (Nat.le_of_not_lt hlt)
      subst hie
      have hd : es[i]? = none := List.getElem?_eq_none (by omega)
      refine W.done s _ _ hst fun h' tk hk => ?_
      rw [hd]
      refine ⟨rfl, h', tk, rfl, ?_⟩
      obtain ⟨φ, m, q⟩ := K
      have q' := Core.hide (Ow := raws hi wr) (O := O) q
      refine St.sub ⟨φ, m, q'.keep fun b o e => ?_⟩ (fun p hp => List.mem_append_right _ hp)
      have hb : b ∉ wr := fun e' => by
        have := hideAll_none ((raws hi wr).map (·.1)) (h := s.heap) (b := b) (by rw [raws_fst]; exact e')
        rw [this] at e; cases e
      exact hk b o hb (of_hideAll _ e)
  self := by
    rintro a ρ O T i Ow Tw' s ⟨hi, hWS, hTk, hle, rfl, rfl⟩ K
    exact W.self i s _ _ (W.frame i hi s.heap hWS (hTk.here K)) ⟨rfl, rfl⟩

/-- new things taken as own, raw -/
theorem St.adoptN : ∀ {wr : List Addr}, St prog w H a ρ O T h → Keep h h' → (∀ b ∈ wr, h.get? b = none) → (∀ b ∈ wr, ∃ o, h'.get? b = some o) → wr.Nodup → St prog w H a ρ (raws h' wr ++ O) T h' := by
  intro wr K hk hf hal hnd
  obtain ⟨φ, m, q⟩ := K
  have q' := q.keep hk
  suffices ∀ wr : List Addr, (∀ b ∈ wr, h.get? b = none) → (∀ b ∈ wr, ∃ o, h'.get? b = some o) → wr.Nodup → Core prog w H a ρ (raws h' wr ++ O) T φ m h' from ⟨φ, m, this wr hf hal hnd⟩
  intro wr
  induction wr with
  | nil => intro _ _ _; exact q'
  | cons b wr ih =>
    intro hf hal hnd
    have hnd' := List.nodup_cons.mp hnd
    obtain ⟨o, ho⟩ := hal b (.head _)
    have hb := hf b (.head _)
    have := Core.adopt (ih (fun c hc => hf c (.tail _ hc)) (fun c hc => hal c (.tail _ hc)) hnd'.2) ho (q.phi_free hb) (q.base_free hb) (fun hm => by
      rcases List.mem_append.mp ((muts_append (a := a) (Ow := raws h' wr) (Oz := O)).mem_iff.mp hm) with hm | hm
      · rw [raws_fst] at hm; exact hnd'.1 hm
      · obtain ⟨o', e⟩ := muts_alive q b hm
        rw [hb] at e; cases e)
    show Core prog w H a ρ ((b, .raw (atD h' b)) :: (raws h' wr ++ O)) T φ m h'
    rw [atD_of ho]
    exact this

theorem lotg_plain {target : Expr} {I : Addr} {o : Obj} {cn : String} {vs : Array Value} {v : Value} {s : Shared} {Q : Unit → Shared → Prop} {E : Value → Shared → Prop} (ho : s.heap.get? I = some o) (hc : o.cls = .type cn) (hd : o.data = .fields vs)
    (hn : (["enumerate", "zip", "dict_itemiterator", "dict_reverseitemiterator", "odict_iterator", "itertools.zip_longest", "itertools.pairwise"].contains cn) = false) (hQ : Q () s) : wpAny (model prog w) A (letOwnedTupleGo target (.ref I) v) Q E s := by
  have key : wpAny (model prog w) A (do
    let (.ref r, .ref a) := ((Value.ref I, v) : Value × Value) | return
    let o ← load r
    match o.cls, o.data with
    | .type n, .fields vs =>
      if ["enumerate", "zip", "dict_itemiterator", "dict_reverseitemiterator", "odict_iterator", "itertools.zip_longest", "itertools.pairwise"].contains n && vs[0]? == some (rawInt a) then
        rule "for.unpacks-the-owned-tuple"
        updateField r 0 .none
    | _, _ => pure ()) Q E s := by
    cases v <;> first
      | exact wpAny_pure hQ
      | (refine wpAny_bind (wpAny_load ho ?_)
         rw [hc, hd]
         dsimp only
         rw [if_neg (by rw [hn]; simp)]
         exact wpAny_pure hQ)
  unfold letOwnedTupleGo
  cases target <;> first | exact wpAny_pure hQ | exact key

theorem Itr.list {target : Expr} {ds : List D} (hh : A.handled = none) : Itr prog w H A target (.list ds) ds := fun a ρ O T v => Tr.of fun s R K hR => by
  obtain ⟨l, vs, rfl, hp, hlen, K₁⟩ := K.list (.head _)
  obtain ⟨n, hl⟩ := id hp
  refine wpAny_pyIter_list hp.isList (hR _ _ s.toks ?_)
  have hI : s.heap.get? s.heap.objs.size = none := fresh_none s.heap
  have hne : l ≠ s.heap.objs.size := Nat.ne_of_lt (Heap.lt_size hl)
  have W := Walks.list (prog := prog) (w := w) hh s.heap.objs.size l hne vs.toArray
  have hn : vs.toArray.size = ds.length := by rw [List.size_toArray, hlen]
  have hraw : ∀ φ : FM, (∀ p ∈ vs.zip ds ++ (.ref l, .list ds) :: T, Rd prog w φ p.1 p.2) → True := fun _ _ => trivial
  have K₂ : St prog w H a ρ O ((.ref l, .raw (listOf vs.toArray n)) :: (vs.zip ds ++ (.ref l, .list ds) :: T)) s.heap := by
    obtain ⟨φ, m, q⟩ := K₁
    refine ⟨φ, m, { q with temps := ?_ }⟩
    intro p hp
    rcases List.mem_cons.mp hp with rfl | hp
    · have := q.temps (.ref l, .list ds) (List.mem_append_right _ (.head _))
      obtain ⟨_, _, _, e0, e, r⟩ := this.inv
      cases e0
      · refine .raw ?_
        have e' := q.sub _ _ e
        rw [hl] at e'
        rw [e, ← Option.some.inj e']
    · exact q.temps p hp
  refine ⟨s.heap.objs.size, _, _, _, rfl, Src.ofWalks (Tw := (.ref l, .raw (listOf vs.toArray n)) :: vs.zip ds) W hn ?_ ?_ ?_, ⟨s.heap.push { cls := .type "list_iterator", data := .fields #[.ref l, .int 0 0] }, ⟨⟨_, Heap.get?_push_size _ rfl, rfl, rfl⟩, ⟨_, Heap.get?_push_of_some _ hl, rfl, _, rfl⟩⟩, ⟨?_, ?_⟩, Nat.zero_le _, rfl, rfl⟩, ?_⟩
  · intro i h st b hb
    rw [List.mem_singleton] at hb
    subst hb
    obtain ⟨⟨o, ho, _⟩, _⟩ := st
    exact ⟨o, ho⟩
  · intro i s' v Q st hQ
    obtain ⟨⟨o, ho, hc, hd⟩, _⟩ := st
    exact lotg_plain ho hc hd (by decide) hQ
  · intro i v d hP hd φ hT
    have hP' : vs[i]? = some v := by simpa using hP
    have hm : (v, d) ∈ vs.zip ds := List.mem_of_getElem? (i := i) (by rw [List.getElem?_zip_eq_some]; exact ⟨hP', hd⟩)
    exact hT _ (.tail _ hm)
  · intro b hb
    rw [List.mem_singleton] at hb
    subst hb
    exact ⟨_, Heap.get?_push_size _ rfl⟩
  · intro b hb hw
    rcases List.mem_cons.mp hb with rfl | hb
    · exact absurd (List.mem_singleton.mpr rfl) hw
    · rw [List.mem_singleton] at hb
      subst hb
      exact ⟨_, Heap.get?_push_of_some _ hl, .head _⟩
  · refine St.adoptN (K₂.sub ?_) (Keep.push _ _) ?_ ?_ (by simp)
    · intro p hp
      rcases List.mem_append.mp hp with hp | hp
      · rcases List.mem_cons.mp hp with rfl | hp
        · exact .head _
        · exact .tail _ (List.mem_append_left _ hp)
      · exact .tail _ (List.mem_append_right _ (.tail _ hp))
    · intro b hb
      rw [List.mem_singleton] at hb
      subst hb
      exact hI
    · intro b hb
      rw [List.mem_singleton] at hb
      subst hb
      exact ⟨_, Heap.get?_push_size _ rfl⟩
end
end Mine

namespace Mine

section
variable {prog : Program} {w : World} {H : Heap} {A : Around} {a a' : Act} {ρ ρ' : Rho} {O O' O₁ Oe Ow Ow' Oz : List (Addr × OD)} {T T' Tn Tw : List (Value × D)} {φ φ' : FM} {m m' : Str → Option Value} {h h' : Heap} {mg mb : Str → Option Value}

/-- a source begins -/
theorem srcAt_of {target : Expr} {I : Addr} {fp wr : List Addr} {WS : Nat → Heap → Prop} {es : List D} (S : Src prog w H A target I es (fun i Ow T => ∃ hi, WS i hi ∧ Trk hi fp wr Tw ∧ i ≤ es.length ∧ Ow = raws hi wr ∧ T = Tw) [])
    (hst : WS 0 h') (hk : Keep h h') (hf : ∀ b ∈ wr, h.get? b = none) (hal : ∀ b ∈ wr, ∃ o, h'.get? b = some o) (hnd : wr.Nodup) (hrest : ∀ b ∈ fp, b ∉ wr → ∃ o, h'.get? b = some o ∧ ((.ref b : Value), D.raw o) ∈ Tw)
    (K : St prog w H a ρ O (Tw ++ T) h) : SrcAt prog w H A a ρ O [] target es T (.ref I) h' :=
  ⟨I, _, _, _, rfl, S, ⟨h', hst, ⟨hal, hrest⟩, Nat.zero_le _, rfl, rfl⟩, St.adoptN K hk hf hal hnd⟩

theorem one_live {I : Addr} {h : Heap} {o : Obj} (ho : h.get? I = some o) : ∀ b ∈ [I], ∃ o, h.get? b = some o := fun b hb => by
  rw [List.mem_singleton] at hb
  subst hb
  exact ⟨o, ho⟩

theorem St.pushRaw {n : Addr} {o : Obj} (K : St prog w H a ρ O T h) (hk : Keep h h') (hn : h.get? n = none) (ho : h'.get? n = some o) : St prog w H a ρ O ((.ref n, .raw o) :: T) h' :=
  K.alloc hk hn ho fun φ _ e => .raw e

theorem range_size (n : Nat) : Builtin.Range.rangeSize 0 (n : Int) 1 = n := by unfold Builtin.Range.rangeSize; split <;> split <;> omega
theorem Itr.range {target : Expr} {n : Nat} (hh : A.handled = none) (hsz : (n : Int) < 2 ^ 62) : Itr prog w H A target (.range 0 n) ((List.range n).map fun i => .int (i : Nat)) := fun a ρ O T v => Tr.of fun s R K hR => by
  obtain ⟨φ, m, q⟩ := id K
  have hq := q.temps _ (.head _)
  obtain ⟨r, t, u, u', rfl, e⟩ := hq.inv
  · have hr : IsRange s.heap r 0 n 1 t u u' := q.sub _ _ e
    refine wpAny_pyIter_range hr (small_one (by decide) (by decide) (Int.le_trans (by decide) (Int.natCast_nonneg n)) hsz) (hR _ _ s.toks ?_)
    have W := Walks.range (prog := prog) (w := w) hh s.heap.objs.size 0 1 n
    have hn : n = ((List.range n).map fun i => D.int (i : Nat)).length := by simp
    have hsize := range_size n
    refine srcAt_of (Tw := []) (Src.ofWalks (target := target) W hn ?_ ?_ ?_) ?_ (Keep.push _ _) (fun b hb => by rw [List.mem_singleton] at hb; subst hb; exact fresh_none _) (one_live (Heap.get?_push_size _ rfl)) (by simp) (fun b hb hw => absurd hb hw) (K.sub fun p hp => .tail _ hp)
    · intro i h st b hb
      rw [List.mem_singleton] at hb
      subst hb
      exact ⟨_, st⟩
    · intro i s' v Q st hQ
      exact lotg_plain st rfl rfl (by decide) hQ
    · rintro i v d ⟨t, rfl⟩ hd φ _
      rw [List.getElem?_map] at hd
      obtain ⟨j, hj, rfl⟩ := Option.map_eq_some_iff.mp hd
      obtain ⟨_, rfl⟩ := List.getElem?_eq_some_iff.mp hj
      rw [List.getElem_range]
      have : (0 : Int) + (i : Int) * 1 = (i : Nat) := by rw [Int.mul_one, Int.zero_add]
      rw [this]
      exact .int _ _
    · show IsRangeIter _ _ _ _ _
      unfold IsRangeIter
      rw [Heap.get?_push_size _ rfl, hsize]
      have : (0 : Int) + ((0 : Nat) : Int) * 1 = 0 := rfl
      rw [this, show (n : Int) - ((0 : Nat) : Int) = n from Int.sub_zero _]

theorem Itr.tuple {target : Expr} {ds : List D} (hh : A.handled = none) : Itr prog w H A target (.tup ds) ds := fun a ρ O T v => Tr.of fun s R K hR => by
  obtain ⟨φ, m, q⟩ := id K
  have hq := q.temps _ (.head _)
  obtain ⟨l, vs, n, rfl, e, r⟩ := hq.inv
  · have hl := q.sub _ _ e
    have ht : s.heap.IsTuple l vs.toArray := ⟨_, hl, rfl, n, rfl⟩
    refine wpAny_pyIter_tuple ht (hR _ _ s.toks ?_)
    have hne : l ≠ s.heap.objs.size := Nat.ne_of_lt (Heap.lt_size hl)
    have W := Walks.tuple (prog := prog) (w := w) hh s.heap.objs.size l hne vs.toArray
    have hn : vs.toArray.size = ds.length := by rw [List.size_toArray, r.length]
    refine srcAt_of (Tw := (.ref l, .raw { cls := .type "tuple", data := .seq vs.toArray n }) :: vs.zip ds) (Src.ofWalks (target := target) W hn ?_ ?_ ?_) ⟨⟨_, Heap.get?_push_size _ rfl, rfl, rfl⟩, ⟨_, Heap.get?_push_of_some _ hl, rfl, n, rfl⟩⟩ (Keep.push _ _) (fun b hb => by rw [List.mem_singleton] at hb; subst hb; exact fresh_none _) (one_live (Heap.get?_push_size _ rfl)) (by simp) ?_ ⟨φ, m, { q with temps := ?_ }⟩
    · intro i h st b hb
      rw [List.mem_singleton] at hb
      subst hb
      obtain ⟨⟨o, ho, _⟩, _⟩ := st
      exact ⟨o, ho⟩
    · intro i s' v Q st hQ
      obtain ⟨⟨o, ho, hc, hd⟩, _⟩ := st
      exact lotg_plain ho hc hd (by decide) hQ
    · intro i v d hP hd φ hT
      have hP' : vs[i]? = some v := by simpa using hP
      have hm : (v, d) ∈ vs.zip ds := List.mem_of_getElem? (i := i) (by rw [List.getElem?_zip_eq_some]; exact ⟨hP', hd⟩)
      exact hT _ (.tail _ hm)
    · intro b hb hw
      rcases List.mem_cons.mp hb with rfl | hb
      · exact absurd (List.mem_singleton.mpr rfl) hw
      · rw [List.mem_singleton] at hb
        subst hb
        exact ⟨_, Heap.get?_push_of_some _ hl, .head _⟩
    · intro p hp
      rcases List.mem_append.mp hp with hp | hp
      · rcases List.mem_cons.mp hp with rfl | hp
        · exact .raw e
        · exact r.zip p hp
      · exact q.temps p (.tail _ hp)

theorem Itr.str {target : Expr} {x : Str} (hh : A.handled = none) (ha : x.cps.all (· < 128) = true) : Itr prog w H A target (.str x) (x.cps.toList.map fun c => .str ⟨#[c]⟩) := fun a ρ O T v => Tr.of fun s R K hR => by
  obtain ⟨t, rfl⟩ := K.str (.head _)
  refine wpAny_pyIter_ascii ha (hR _ _ s.toks ?_)
  have W := Walks.strAscii (prog := prog) (w := w) hh s.heap.objs.size x t
  have hn : x.cps.size = (x.cps.toList.map fun c => D.str ⟨#[c]⟩).length := by simp
  refine srcAt_of (Tw := []) (Src.ofWalks (target := target) W hn ?_ ?_ ?_) ⟨_, Heap.get?_push_size _ rfl, rfl, rfl⟩ (Keep.push _ _) (fun b hb => by rw [List.mem_singleton] at hb; subst hb; exact fresh_none _) (one_live (Heap.get?_push_size _ rfl)) (by simp) (fun b hb hw => absurd hb hw) (K.sub fun p hp => .tail _ hp)
  · intro i h st b hb
    rw [List.mem_singleton] at hb
    subst hb
    obtain ⟨o, ho, _⟩ := st
    exact ⟨o, ho⟩
  · intro i s' v Q st hQ
    obtain ⟨o, ho, hc, hd⟩ := st
    exact lotg_plain ho hc hd (by decide) hQ
  · rintro i v d ⟨c, u, hc, rfl⟩ hd φ _
    rw [List.getElem?_map] at hd
    obtain ⟨c', hc', rfl⟩ := Option.map_eq_some_iff.mp hd
    have : c = c' := by
      have h1 : x.cps.toList[i]? = some c := by simpa using hc
      rw [h1] at hc'; exact Option.some.inj hc'
    subst this
    exact .str _ _

/-! dicts -/
theorem DictObj.at {o : Obj} {kvs : List (Str × Int)} {d : Addr} (x : DictObj prog w o kvs) (ho : h.get? d = some o) : ∃ kv ep, h.DictAt (strKind prog w) d kv ep ∧ kv.map tv = kvs.map fun p => (p.1, some p.2) := by
  obtain ⟨kv, hk, e⟩ := x
  obtain ⟨ep, h1⟩ := (Heap.dictOf_iff.mpr ⟨o, ho, hk⟩ : h.DictOf (strKind prog w) d kv).dictAt
  exact ⟨kv, ep, h1, e⟩
theorem tv_get {kv : List (Str × Value)} {kvs : List (Str × Int)} (e : kv.map tv = kvs.map fun p => (p.1, some p.2)) {i : Nat} {k : Str} {v : Value} (hi : kv[i]? = some (k, v)) : ∃ n t, kvs[i]? = some (k, n) ∧ v = .int n t := by
  have h1 := congrArg (fun l => l[i]?) e
  simp only [List.getElem?_map, hi, Option.map_some] at h1
  cases hk : kvs[i]? with
  | none => rw [hk] at h1; cases h1
  | some p =>
    rw [hk] at h1
    simp only [Option.map_some, Option.some.injEq, tv] at h1
    obtain ⟨p1, p2⟩ := p
    simp only [Prod.mk.injEq] at h1
    obtain ⟨rfl, h2⟩ := h1
    cases v with
    | int n t =>
      dsimp only at h2
      cases h2
      exact ⟨_, t, rfl, rfl⟩
    | _ => cases h2
theorem tv_len {kv : List (Str × Value)} {kvs : List (Str × Int)} (e : kv.map tv = kvs.map fun p => (p.1, some p.2)) : kv.length = kvs.length := by
  have := congrArg List.length e
  simpa using this

theorem Itr.dict {target : Expr} {kvs : List (Str × Int)} (hh : A.handled = none) : Itr prog w H A target (.dict kvs) (kvs.map fun p => .str p.1) := fun a ρ O T v => Tr.of fun s R K hR => by
  obtain ⟨φ, m, q⟩ := id K
  have hq := q.temps _ (.head _)
  obtain ⟨d, o, rfl, e, hdo, hS⟩ := hq.inv
  · have hl := q.sub _ _ e
    obtain ⟨kv, ep, hm, htv⟩ := hdo.at hl
    refine wpAny_pyIter_dict hS hm (hR _ _ s.toks ?_)
    have hne : d ≠ s.heap.objs.size := Nat.ne_of_lt (Heap.lt_size hl)
    have W := Walks.dictKeys (prog := prog) (w := w) (knd := strKind prog w) hh s.heap.objs.size d hne kv ep
    have hn : kv.length = (kvs.map fun p => D.str p.1).length := by rw [List.length_map]; exact tv_len htv
    refine srcAt_of (Tw := [(.ref d, .raw o)]) (Src.ofWalks (target := target) W hn ?_ ?_ ?_) ⟨⟨_, Heap.get?_push_size _ rfl, rfl, rfl⟩, hm.push _⟩ (Keep.push _ _) (fun b hb => by rw [List.mem_singleton] at hb; subst hb; exact fresh_none _) (one_live (Heap.get?_push_size _ rfl)) (by simp) ?_ ⟨φ, m, { q with temps := ?_ }⟩
    · intro i h st b hb
      rw [List.mem_singleton] at hb
      subst hb
      obtain ⟨⟨o, ho, _⟩, _⟩ := st
      exact ⟨o, ho⟩
    · intro i s' v Q st hQ
      obtain ⟨⟨o, ho, hc, hd⟩, _⟩ := st
      exact lotg_plain ho hc hd (by decide) hQ
    · rintro i v d' ⟨k, x, hx, hkv⟩ hd φ hT
      obtain ⟨t, rfl⟩ := Value.isStrOf_shape hkv
      obtain ⟨n, t', hk', rfl⟩ := tv_get htv hx
      rw [List.getElem?_map, hk'] at hd
      cases hd
      exact .str _ _
    · intro b hb hw
      rcases List.mem_cons.mp hb with rfl | hb
      · exact absurd (List.mem_singleton.mpr rfl) hw
      · rw [List.mem_singleton] at hb
        subst hb
        exact ⟨_, Heap.get?_push_of_some _ hl, .head _⟩
    · intro p hp
      rcases List.mem_append.mp hp with hp | hp
      · rw [List.mem_singleton] at hp
        subst hp
        exact .raw e
      · exact q.temps p (.tail _ hp)

theorem Itr.vals {target : Expr} {kvs : List (Str × Int)} (hh : A.handled = none) : Itr prog w H A target (.vals kvs) (kvs.map fun p => .int p.2) := fun a ρ O T v => Tr.of fun s R K hR => by
  obtain ⟨φ, m, q⟩ := id K
  have hq := q.temps _ (.head _)
  obtain ⟨u, d, ov, o, rfl, e0, hc0, hd0, e, hdo⟩ := hq.inv
  · have hl := q.sub _ _ e
    obtain ⟨kv, ep, hm, htv⟩ := hdo.at hl
    refine wpAny_pyIter_values ⟨ov, q.sub _ _ e0, hc0, hd0⟩ hm (hR _ _ s.toks ?_)
    have hne : d ≠ s.heap.objs.size := Nat.ne_of_lt (Heap.lt_size hl)
    have W := Walks.dictValues (prog := prog) (w := w) (knd := strKind prog w) hh s.heap.objs.size d hne kv ep
    have hn : kv.length = (kvs.map fun p => D.int p.2).length := by rw [List.length_map]; exact tv_len htv
    refine srcAt_of (Tw := [(.ref d, .raw o)]) (Src.ofWalks (target := target) W hn ?_ ?_ ?_) ⟨⟨_, Heap.get?_push_size _ rfl, rfl, rfl⟩, hm.push _⟩ (Keep.push _ _) (fun b hb => by rw [List.mem_singleton] at hb; subst hb; exact fresh_none _) (one_live (Heap.get?_push_size _ rfl)) (by simp) ?_ ⟨φ, m, { q with temps := ?_ }⟩
    · intro i h st b hb
      rw [List.mem_singleton] at hb
      subst hb
      obtain ⟨⟨o, ho, _⟩, _⟩ := st
      exact ⟨o, ho⟩
    · intro i s' v Q st hQ
      obtain ⟨⟨o, ho, hc, hd⟩, _⟩ := st
      exact lotg_plain ho hc hd (by decide) hQ
    · rintro i v d' ⟨k, hx⟩ hd φ hT
      obtain ⟨n, t', hk', rfl⟩ := tv_get htv hx
      rw [List.getElem?_map, hk'] at hd
      cases hd
      exact .int _ _
    · intro b hb hw
      rcases List.mem_cons.mp hb with rfl | hb
      · exact absurd (List.mem_singleton.mpr rfl) hw
      · rw [List.mem_singleton] at hb
        subst hb
        exact ⟨_, Heap.get?_push_of_some _ hl, .head _⟩
    · intro p hp
      rcases List.mem_append.mp hp with hp | hp
      · rw [List.mem_singleton] at hp
        subst hp
        exact .raw e
      · exact q.temps p (.tail _ hp)

theorem walksItems (hh : A.handled = none) (I d : Addr) (hne : d ≠ I) (kv : List (Str × Value)) (ep : Nat) :
    WalksT prog w A I [I, d] [I] kv.length (fun i vals => ∃ k v key, kv[i]? = some (k, v) ∧ (strKind prog w).is k key = true ∧ vals = #[key, v])
      (fun i h => (∃ ok ov, IsItemIter h I d i kv.length ep ok ov) ∧ h.DictAt (strKind prog w) d kv ep)
      (fun i T h => (∃ ok ov, IsItemIterOut h I d (i + 1) kv.length ep ok ov T) ∧ h.DictAt (strKind prog w) d kv ep ∧ T ≠ I) where
  sub := fun b hb => by simp at hb; simp [hb]
  frame := fun i h h' st hk => by
    obtain ⟨⟨ok, ov, hi⟩, hm⟩ := st
    exact ⟨⟨ok, ov, hk I (by simp) _ hi⟩, hm.at' fun o e => hk d (by simp) o e⟩
  item := fun i s Q E hi st hQ => by
    obtain ⟨⟨ok, ov, hit⟩, hm⟩ := st
    have hx : kv[i]? = some kv[i] := List.getElem?_eq_getElem hi
    refine wpAny_pyNext_items_item (k := kv[i].1) (v := kv[i].2) hit hm hx fun key h' hkey hout htu hsz hk => ?_
    exact hQ s.heap.objs.size #[key, kv[i].2] h' s.toks ⟨_, _, key, hx, hkey, rfl⟩ (Nat.le_refl _) ⟨_, htu, rfl, _, rfl⟩ ⟨⟨_, _, hout⟩, hm.at' fun o e => hk d o hne e, Nat.ne_of_gt (Heap.lt_size hit)⟩
      fun b o hb e => hk b o (fun h => hb (by simp [h])) e
  go := fun elts k pos i T s Q E hm hQ => by
    obtain ⟨⟨ok, ov, ho⟩, hd, hT⟩ := hm
    exact wpAny_letOwnedTupleGo_items ho fun h' hi' hs' => hQ h' ⟨⟨ok, ov, hi'⟩, hd.at' fun o e => (hs'.2 d hne).trans e⟩ fun b o hb e => (hs'.2 b fun h => hb (by simp [h])).trans e
  apart := fun i T h hm hT => by
    rw [List.mem_singleton] at hT
    exact hm.2.2 hT
  done := fun s Q E st hQ => by
    obtain ⟨⟨ok, ov, hit⟩, hm⟩ := st
    exact wpAny_pyNext_items_end hh hit hm (by simp) fun h' he' => hQ h' s.toks fun b o hb e => he' b o (fun h => hb (by simp [h])) e
  self := fun i s Q E st hQ => by
    obtain ⟨⟨ok, ov, hit⟩, hm⟩ := st
    exact kcp_self hit hQ

theorem Itr.items {elts : List Expr} {k : Nat} {pos : Pos} {kvs : List (Str × Int)} (hh : A.handled = none) : Itr prog w H A (.Tuple elts k pos) (.items kvs) (kvs.map fun p => .tupg [.str p.1, .int p.2]) := fun a ρ O T v => Tr.of fun s R K hR => by
  obtain ⟨φ, m, q⟩ := id K
  have hq := q.temps _ (.head _)
  obtain ⟨u, d, ov, o, rfl, e0, hc0, hd0, e, hdo⟩ := hq.inv
  · have hl := q.sub _ _ e
    obtain ⟨kv, ep, hm, htv⟩ := hdo.at hl
    refine wpAny_pyIter_items ⟨ov, q.sub _ _ e0, hc0, hd0⟩ hm (hR _ _ s.toks ?_)
    have hne : d ≠ s.heap.objs.size := Nat.ne_of_lt (Heap.lt_size hl)
    have W := walksItems (prog := prog) (w := w) hh s.heap.objs.size d hne kv ep
    have hn : kv.length = (kvs.map fun p => D.tupg [D.str p.1, .int p.2]).length := by rw [List.length_map]; exact tv_len htv
    refine srcAt_of (Tw := [(.ref d, .raw o)]) (Src.ofWalksT (elts := elts) (k := k) (pos := pos) W hn ?_ ?_) ⟨⟨_, _, Heap.get?_push_size _ rfl⟩, hm.push _⟩ (Keep.push _ _) (fun b hb => by rw [List.mem_singleton] at hb; subst hb; exact fresh_none _) (one_live (Heap.get?_push_size _ rfl)) (by simp) ?_ ⟨φ, m, { q with temps := ?_ }⟩
    · intro i h st b hb
      rw [List.mem_singleton] at hb
      subst hb
      obtain ⟨⟨ok, ov, ho⟩, _⟩ := st
      exact ⟨_, ho⟩
    · rintro i v d' ⟨k, x, key, hx, hkey, rfl⟩ hd
      obtain ⟨t, rfl⟩ := Value.isStrOf_shape hkey
      obtain ⟨n, t', hk', rfl⟩ := tv_get htv hx
      rw [List.getElem?_map, hk'] at hd
      cases hd
      exact ⟨_, rfl, fun φ _ => .cons (.str _ _) (.cons (.int _ _) .nil)⟩
    · intro b hb hw
      rcases List.mem_cons.mp hb with rfl | hb
      · exact absurd (List.mem_singleton.mpr rfl) hw
      · rw [List.mem_singleton] at hb
        subst hb
        exact ⟨_, Heap.get?_push_of_some _ hl, .head _⟩
    · intro p hp
      rcases List.mem_append.mp hp with hp | hp
      · rw [List.mem_singleton] at hp
        subst hp
        exact .raw e
      · exact q.temps p (.tail _ hp)
end
end Mine

namespace Mine

section
variable {prog : Program} {w : World} {H : Heap} {A : Around} {a a' : Act} {ρ ρ' : Rho} {O O' O₁ Oe Ow Ow' Oz : List (Addr × OD)} {T T' Tn Tw : List (Value × D)} {φ φ' : FM} {m m' : Str → Option Value} {h h' : Heap} {mg mb : Str → Option Value} {E : Value → Shared → Prop} {s : Shared}

/-- a global name -/
theorem nameG {x : Str} {pos : Pos} {v : Value} {Q : Value → Shared → Prop} (W : Wo prog w H mg mb) (K : St prog w H a ρ O T s.heap) (e : nsIn (hd.heap_1 w.params) mainGlobals x = some (some v)) (hx : a.env.kindOf x = some .globalImplicit) (hQ : Q v s) (hd : (x == ("__debug__" : Str)) = false := by decide) :
    wpAny (model prog w) A (eval (.Name x pos) a.env) Q E s := by
  obtain ⟨φ, m, q⟩ := K
  have kH : Keep H s.heap := q.wb.trans q.base
  exact Name_function_global q.fn hx (loadGlobal_global (mg := mg) (by rw [q.gl]; exact W.g.keeps kH) (mg_of W.X W.g e) hQ) hd
theorem nameB {x : Str} {pos : Pos} {v : Value} {Q : Value → Shared → Prop} (W : Wo prog w H mg mb) (K : St prog w H a ρ O T s.heap) (e : nsIn (hd.heap_1 w.params) mainGlobals x = some none) (hv : bootBuiltins x = some v) (hn : x ≠ "__name__") (hx : a.env.kindOf x = some .globalImplicit) (hQ : Q v s) (hd : (x == ("__debug__" : Str)) = false := by decide) :
    wpAny (model prog w) A (eval (.Name x pos) a.env) Q E s := by
  obtain ⟨φ, m, q⟩ := K
  have kH : Keep H s.heap := q.wb.trans q.base
  exact Name_function_global q.fn hx (loadGlobal_builtin (mg := mg) (mb := mb) (by rw [q.gl]; exact W.g.keeps kH) (mg_none_of W.X W.g e) (by rw [q.bl]; exact W.b.keeps kH) ((W.bu x hn).trans hv) hQ) hd

/-- a call of a def of the text -/
theorem Ev.callF {x : Str} {np pos : Pos} {e : Expr} {es : List Expr} {ds : List D} {d : D} {f : Addr} {o : Obj} {fd : FuncData} (W : Wo prog w H mg mb) (hx : a.env.kindOf x = some .globalImplicit) (he : nsIn (hd.heap_1 w.params) mainGlobals x = some (some (.ref f))) (hl : (hd.heap_1 w.params).lookup f = some o) (hdata : o.data = .func fd)
    (args : EvL prog w H A a ρ O (e :: es) ds) (hf : PL prog w H A (fun vs => call (.ref f) vs) ds d) (hd : (x == ("__debug__" : Str)) = false := by decide) (hs : starEach (e :: es) a.env = (false, eval e a.env) :: starEach es a.env := by rfl) : Ev prog w H A a ρ O (.Call (.Name x np) (e :: es) [] pos) d :=
  fun T => Tr.of fun s R K hR => by
    refine Call_Name rfl (nameG W K he hx ?_ hd)
    refine callWith_def (o := o) hdata ((args pos T).use K fun vs h' tk q => ?_) hs
    have kH : Keep H h' := by obtain ⟨φ, m, q⟩ := q.2; exact q.wb.trans q.base
    exact ⟨kH _ _ (W.X _ _ hl), (hf a ρ O T vs q.1).use (s := { s with heap := h', toks := tk }) q.2 fun v h'' tk' q' => hR v h'' tk' q'⟩
/-- a call of a built-in function -/
theorem Ev.callB {x : Str} {np pos : Pos} {e : Expr} {es : List Expr} {ds : List D} {d : D} {id : String} (W : Wo prog w H mg mb) (hx : a.env.kindOf x = some .globalImplicit) (he : nsIn (hd.heap_1 w.params) mainGlobals x = some none) (hv : bootBuiltins x = some (.builtin id)) (hn : x ≠ "__name__")
    (args : EvL prog w H A a ρ O (e :: es) ds) (hf : PL prog w H A (fun vs => call (.builtin id) vs) ds d) (hd : (x == ("__debug__" : Str)) = false := by decide) (hs : starEach (e :: es) a.env = (false, eval e a.env) :: starEach es a.env := by rfl) (hp : (backTo pos (starEach es a.env)).any (·.1) = false := by rfl) : Ev prog w H A a ρ O (.Call (.Name x np) (e :: es) [] pos) d :=
  fun T => Tr.of fun s R K hR => by
    refine Call_Name rfl (nameB W K he hv hn hx ?_ hd)
    exact PyProof.Rows.callWith_builtin1 ((args pos T).use K fun vs h' tk q => (hf a ρ O T vs q.1).use (s := { s with heap := h', toks := tk }) q.2 fun v h'' tk' q' => hR v h'' tk' q') hs hp
/-- a call of a built-in class -/
theorem Ev.callT {x : Str} {np pos : Pos} {e : Expr} {es : List Expr} {ds : List D} {d : D} {cn : String} (W : Wo prog w H mg mb) (hx : a.env.kindOf x = some .globalImplicit) (he : nsIn (hd.heap_1 w.params) mainGlobals x = some none) (hv : bootBuiltins x = some (.type cn)) (hn : x ≠ "__name__")
    (args : EvL prog w H A a ρ O (e :: es) ds) (hf : PL prog w H A (fun vs => call (.type cn) vs) ds d) (hd : (x == ("__debug__" : Str)) = false := by decide) (hs : starEach (e :: es) a.env = (false, eval e a.env) :: starEach es a.env := by rfl) (hp : (backTo pos (starEach es a.env)).any (·.1) = false := by rfl) : Ev prog w H A a ρ O (.Call (.Name x np) (e :: es) [] pos) d :=
  fun T => Tr.of fun s R K hR => by
    refine Call_Name rfl (nameB W K he hv hn hx ?_ hd)
    exact PyProof.Rows.callWith_type1 ((args pos T).use K fun vs h' tk q => (hf a ρ O T vs q.1).use (s := { s with heap := h', toks := tk }) q.2 fun v h'' tk' q' => hR v h'' tk' q') hs hp

theorem two_live {I J : Addr} {h : Heap} {o o' : Obj} (ho : h.get? I = some o) (ho' : h.get? J = some o') : ∀ b ∈ [I, J], ∃ o, h.get? b = some o := fun b hb => by
  rcases List.mem_cons.mp hb with rfl | hb
  · exact ⟨o, ho⟩
  · rw [List.mem_singleton] at hb
    subst hb
    exact ⟨o', ho'⟩
theorem fresh_ge {h : Heap} {b : Addr} (hb : h.objs.size ≤ b) : h.get? b = none := by
  cases e : h.get? b with
  | none => rfl
  | some o => exact absurd (Heap.lt_size e) (Nat.not_lt.mpr hb)
theorem St.listRaw {v : Value} {ds : List D} (K : St prog w H a ρ O T h) (hm : (v, .list ds) ∈ T) :
    ∃ l vs n, v = .ref l ∧ h.get? l = some (listOf (List.toArray vs) n) ∧ vs.length = ds.length ∧ St prog w H a ρ O ((.ref l, .raw (listOf (List.toArray vs) n)) :: (vs.zip ds ++ T)) h := by
  obtain ⟨φ, m, q⟩ := K
  have := q.temps _ hm
  obtain ⟨l, vs, n, rfl, e, r⟩ := this.inv
  · refine ⟨l, vs, n, rfl, q.sub _ _ e, r.length, φ, m, { q with temps := ?_ }⟩
    intro p hp
    rcases List.mem_cons.mp hp with rfl | hp
    · exact .raw e
    · rcases List.mem_append.mp hp with hp | hp
      · exact r.zip p hp
      · exact q.temps p hp

noncomputable def enumD (ds : List D) : List D := (List.range ds.length).zipWith (fun i d => D.tupg [.int (i : Nat), d]) ds
theorem enumD_get {ds : List D} {i : Nat} {d' : D} (h : (enumD ds)[i]? = some d') : ∃ d, ds[i]? = some d ∧ d' = .tupg [.int (i : Nat), d] := by
  unfold enumD at h
  rw [List.getElem?_zipWith] at h
  cases hd : ds[i]? with
  | none => rw [hd] at h; cases hr : (List.range ds.length)[i]? <;> rw [hr] at h <;> cases h
  | some d =>
    have hlt := (List.getElem?_eq_some_iff.mp hd).1
    rw [hd, List.getElem?_range hlt] at h
    cases h
    exact ⟨d, rfl, rfl⟩
theorem enumD_len (ds : List D) : (enumD ds).length = ds.length := by unfold enumD; simp

theorem EvIt.enumerate {np pos : Pos} {e : Expr} {ds : List D} {elts : List Expr} {k : Nat} {tp : Pos} (hh : A.handled = none) (W : Wo prog w H mg mb) (hx : a.env.kindOf "enumerate" = some .globalImplicit) (he : nsIn (hd.heap_1 w.params) mainGlobals "enumerate" = some none)
    (x : Ev prog w H A a ρ O e (.list ds)) (hs : starEach [e] a.env = (false, eval e a.env) :: starEach [] a.env := by rfl) : EvIt prog w H A a ρ O O [] (.Tuple elts k tp) (.Call (.Name "enumerate" np) [e] [] pos) (enumD ds) :=
  fun T s K => by
    refine Call_Name rfl (nameB (v := .type "enumerate") W K he (by rfl) (by decide) hx ?_)
    refine PyProof.Rows.callWith_type1 (((EvL.cons x EvL.nil hs) pos T).use K fun vs h' tk q => ?_) hs rfl
    obtain ⟨hl, q⟩ := q
    obtain ⟨v, rfl⟩ := len1 hl
    · obtain ⟨l, us, n, rfl, hl, hlen, q₁⟩ := q.listRaw (.head _)
      have hL : h'.IsList l us.toArray := ⟨_, hl, rfl, n, rfl⟩
      refine call_enumerate_list (s := { s with heap := h', toks := tk }) hL fun h₂ hE hI hsz hk => ?_
      refine ⟨⟨h₂, tk, rfl⟩, wpAny_pyIter_enum (old := .none) hE ?_⟩
      have hlt := Heap.lt_size hl
      have Wk := WalksT.enumerate (prog := prog) (w := w) hh (h'.objs.size + 1) h'.objs.size l (Nat.succ_ne_self _) (Nat.ne_of_lt (Nat.lt_succ_of_lt hlt)) (Nat.ne_of_lt hlt) us.toArray
      have hn : us.toArray.size = (enumD ds).length := by rw [List.size_toArray, hlen, enumD_len]
      obtain ⟨oI, hoI, hrI⟩ := id hI
      refine ⟨h₂, tk, rfl, srcAt_of (h := h') (Tw := (.ref l, .raw (listOf us.toArray n)) :: us.zip ds) (Src.ofWalksT (elts := elts) (k := k) (pos := tp) Wk hn ?_ ?_) ⟨⟨.none, hE⟩, hI, hL.at fun o e => hk _ _ e⟩ hk ?_ (two_live hE hoI) (by simp) ?_ (q₁.sub ?_)⟩
      · intro i h st b hb
        obtain ⟨⟨old, h1⟩, ⟨o2, h2, _⟩, _⟩ := st
        exact two_live h1 h2 b hb
      · rintro i vals d' ⟨t, x, hx, rfl⟩ hd
        obtain ⟨d, hd', rfl⟩ := enumD_get hd
        have hx' : us[i]? = some x := by simpa using hx
        have hm : (x, d) ∈ us.zip ds := List.mem_of_getElem? (i := i) (by rw [List.getElem?_zip_eq_some]; exact ⟨hx', hd'⟩)
        exact ⟨_, rfl, fun φ hT => .cons (.int _ _) (.cons (hT _ (.tail _ hm)) .nil)⟩
      · intro b hb
        rcases List.mem_cons.mp hb with rfl | hb
        · exact fresh_ge (Nat.le_succ _)
        · rw [List.mem_singleton] at hb; subst hb; exact fresh_ge (Nat.le_refl _)
      · intro b hb hw
        rcases List.mem_cons.mp hb with rfl | hb
        · exact absurd (List.mem_cons_self ..) hw
        · rcases List.mem_cons.mp hb with rfl | hb
          · exact absurd (by simp) hw
          · rw [List.mem_singleton] at hb
            subst hb
            exact ⟨_, hk _ _ hl, .head _⟩
      · intro p hp
        rcases List.mem_append.mp hp with hp | hp
        · rcases List.mem_cons.mp hp with rfl | hp
          · exact .head _
          · exact .tail _ (List.mem_append_left _ hp)
        · exact .tail _ (List.mem_append_right _ (List.mem_append_right _ hp))

theorem nat_ne {a b : Nat} (h : a < b ∨ b < a) : a ≠ b := by omega
theorem ne_add {n : Nat} (a b : Nat) (h : a ≠ b) : n + a ≠ n + b := fun e => h (Nat.add_left_cancel e)
theorem lt_ne {n l : Nat} (k : Nat) (h : l < n) : l ≠ n + k := Nat.ne_of_lt (Nat.lt_of_lt_of_le h (Nat.le_add_right n k))
theorem apart_zip (n l1 l2 : Nat) (h1 : l1 < n) (h2 : l2 < n) : ZipApart (n + 4) (n + 2) (n + 3) n (n + 1) l1 l2 where
  TIz := ne_add 2 4 (by decide)
  TOz := ne_add 3 4 (by decide)
  i1z := ne_add 0 4 (by decide)
  i2z := ne_add 1 4 (by decide)
  TITO := ne_add 2 3 (by decide)
  TIi1 := ne_add 2 0 (by decide)
  TIi2 := ne_add 2 1 (by decide)
  TOi1 := ne_add 3 0 (by decide)
  TOi2 := ne_add 3 1 (by decide)
  i12 := ne_add 0 1 (by decide)
  l1z := lt_ne 4 h1
  l1TO := lt_ne 3 h1
  l1i1 := lt_ne 0 h1
  l1i2 := lt_ne 1 h1
  l2z := lt_ne 4 h2
  l2TO := lt_ne 3 h2
  l2i1 := lt_ne 0 h2
  l2i2 := lt_ne 1 h2

noncomputable def zipD (ds es : List D) : List D := ds.zipWith (fun d e => D.tupg [d, e]) es

theorem EvIt.zip {np pos : Pos} {e₁ e₂ : Expr} {ds es : List D} {elts : List Expr} {k : Nat} {tp : Pos} (hh : A.handled = none) (W : Wo prog w H mg mb) (hx : a.env.kindOf "zip" = some .globalImplicit) (he : nsIn (hd.heap_1 w.params) mainGlobals "zip" = some none)
    (x : Ev prog w H A a ρ O e₁ (.list ds)) (y : Ev prog w H A a ρ O e₂ (.list es)) (hs1 : starEach [e₁, e₂] a.env = (false, eval e₁ a.env) :: starEach [e₂] a.env := by rfl) (hs2 : starEach [e₂] a.env = (false, eval e₂ a.env) :: starEach [] a.env := by rfl) (hp : (backTo pos (starEach [e₂] a.env)).any (·.1) = false := by rfl) :
    EvIt prog w H A a ρ O O [] (.Tuple elts k tp) (.Call (.Name "zip" np) [e₁, e₂] [] pos) (zipD ds es) :=
  fun T s K => by
    refine Call_Name rfl (nameB (v := .type "zip") W K he (by rfl) (by decide) hx ?_)
    refine PyProof.Rows.callWith_type1 (((EvL.cons x (EvL.cons y EvL.nil hs2) hs1) pos T).use K fun vs h' tk q => ?_) hs1 hp
    obtain ⟨hl, q⟩ := q
    obtain ⟨v1, v2, rfl⟩ := len2 hl
    · obtain ⟨l1, us1, n1, rfl, hl1, hlen1, q₁⟩ := q.listRaw (.head _)
      obtain ⟨l2, us2, n2, rfl, hl2, hlen2, q₂⟩ := q₁.listRaw (v := v2) (ds := es) (.tail _ (List.mem_append_right _ (.tail _ (.head _))))
      have hL1 : h'.IsList l1 us1.toArray := ⟨_, hl1, rfl, n1, rfl⟩
      have hL2 : h'.IsList l2 us2.toArray := ⟨_, hl2, rfl, n2, rfl⟩
      have hlt1 := Heap.lt_size hl1
      have hlt2 := Heap.lt_size hl2
      refine call_zip_2 (s := { s with heap := h', toks := tk }) hL1 hL2 fun h₂ hZ hTI hTO hI1 hI2 hsz hk => ?_
      refine ⟨⟨h₂, tk, rfl⟩, wpAny_pyIter_zip hZ ?_⟩
      have AP := apart_zip h'.objs.size l1 l2 hlt1 hlt2
      have Wk := WalksT.zip2 (prog := prog) (w := w) hh _ _ _ _ _ _ _ AP us1.toArray us2.toArray
      have hn : min us1.toArray.size us2.toArray.size = (zipD ds es).length := by rw [List.size_toArray, List.size_toArray, hlen1, hlen2]; unfold zipD; simp
      obtain ⟨oI, hoI, hrI⟩ := id hI1
      obtain ⟨oJ, hoJ, hrJ⟩ := id hI2
      have q₃ := q₂.pushRaw (n := h'.objs.size + 2) hk (fresh_ge (Nat.le_add_right _ 2)) hTI
      -- the pair of iterators is frozen; the rest is own
      have q₄ : St prog w H a ρ O (((.ref (h'.objs.size + 2), .raw { cls := .type "tuple", data := .seq #[.ref h'.objs.size, .ref (h'.objs.size + 1)] }) :: (.ref l1, .raw (listOf us1.toArray n1)) :: (.ref l2, .raw (listOf us2.toArray n2)) :: (us1.zip ds ++ us2.zip es)) ++ T) h₂ := q₃.sub fun p hp => by
        simp only [List.cons_append, List.mem_cons, List.mem_append] at hp ⊢
        rcases hp with h | h | h | (h | h) | h
        · exact .inl h
        · exact .inr (.inr (.inr (.inl h)))
        · exact .inr (.inl h)
        · exact .inr (.inr (.inr (.inr (.inl h))))
        · exact .inr (.inr (.inl h))
        · exact .inr (.inr (.inr (.inr (.inr (.inr h)))))
      have hal : ∀ b ∈ [h'.objs.size + 4, h'.objs.size + 3, h'.objs.size, h'.objs.size + 1], ∃ o, h₂.get? b = some o := by
        intro b hb
        simp only [List.mem_cons, List.not_mem_nil, or_false] at hb
        rcases hb with rfl | rfl | rfl | rfl
        · exact ⟨_, hZ⟩
        · exact ⟨_, hTO⟩
        · exact ⟨_, hoI⟩
        · exact ⟨_, hoJ⟩
      have q₅ : St prog w H a ρ (raws h₂ [h'.objs.size + 4, h'.objs.size + 3, h'.objs.size, h'.objs.size + 1] ++ O) (((.ref (h'.objs.size + 2), .raw { cls := .type "tuple", data := .seq #[.ref h'.objs.size, .ref (h'.objs.size + 1)] }) :: (.ref l1, .raw (listOf us1.toArray n1)) :: (.ref l2, .raw (listOf us2.toArray n2)) :: (us1.zip ds ++ us2.zip es)) ++ T) h₂ := by
        obtain ⟨φ, m, qq⟩ := q₂
        have qa := qq.alloc hk (fun b => if b = h'.objs.size + 2 then some { cls := .type "tuple", data := .seq #[.ref h'.objs.size, .ref (h'.objs.size + 1)] } else none) (by
          intro b o' e
          split at e <;> cases e
          rename_i hb
          subst hb
          exact ⟨fresh_ge (Nat.le_add_right _ 2), hTI⟩)
        have free : ∀ b : Nat, h'.objs.size ≤ b → b ≠ h'.objs.size + 2 → (match (if b = h'.objs.size + 2 then some ({ cls := .type "tuple", data := .seq #[.ref h'.objs.size, .ref (h'.objs.size + 1)] } : Obj) else none) with | some o => some o | none => φ b) = none := by
          intro b hb hne
          rw [if_neg hne]
          exact qq.phi_free (fresh_ge hb)
        have base : ∀ b : Nat, h'.objs.size ≤ b → a.h₀.get? b = none := fun b hb => qq.base_free (fresh_ge hb)
        have nm : ∀ b : Nat, h'.objs.size ≤ b → b ∉ muts a O := fun b hb hm => by
          obtain ⟨o', e⟩ := muts_alive qq b hm
          exact absurd (Heap.lt_size e) (Nat.not_lt.mpr hb)
        have s1 := Core.adopt (n := h'.objs.size + 1) qa hoJ (free _ (Nat.le_add_right _ 1) (ne_add 1 2 (by decide))) (base _ (Nat.le_add_right _ 1)) (nm _ (Nat.le_add_right _ 1))
        have s2 := Core.adopt (n := h'.objs.size) s1 hoI (free _ (Nat.le_refl _) (ne_add 0 2 (by decide))) (base _ (Nat.le_refl _)) (fun hm => by
          rcases List.mem_cons.mp ((muts_append (a := a) (Ow := [(h'.objs.size + 1, OD.raw oJ)]) (Oz := O)).mem_iff.mp hm) with hm | hm
          · simp at hm
          · exact nm _ (Nat.le_refl _) hm)
        have s3 := Core.adopt (n := h'.objs.size + 3) s2 hTO (free _ (Nat.le_add_right _ 3) (ne_add 3 2 (by decide))) (base _ (Nat.le_add_right _ 3)) (fun hm => by
          rcases List.mem_append.mp ((muts_append (a := a) (Ow := [(h'.objs.size, OD.raw oI), (h'.objs.size + 1, OD.raw oJ)]) (Oz := O)).mem_iff.mp hm) with hm | hm
          · simp at hm
          · exact nm _ (Nat.le_add_right _ 3) hm)
        have s4 := Core.adopt (n := h'.objs.size + 4) s3 hZ (free _ (Nat.le_add_right _ 4) (ne_add 4 2 (by decide))) (base _ (Nat.le_add_right _ 4)) (fun hm => by
          rcases List.mem_append.mp ((muts_append (a := a) (Ow := [(h'.objs.size + 3, OD.raw { cls := .type "tuple", data := .seq #[.none, .none] }), (h'.objs.size, OD.raw oI), (h'.objs.size + 1, OD.raw oJ)]) (Oz := O)).mem_iff.mp hm) with hm | hm
          · simp at hm
          · exact nm _ (Nat.le_add_right _ 4) hm)
        have hr : raws h₂ [h'.objs.size + 4, h'.objs.size + 3, h'.objs.size, h'.objs.size + 1] = [(h'.objs.size + 4, OD.raw { cls := .type "zip", dict := none, data := .fields #[.none, .bool false, .bool false, .ref (h'.objs.size + 2), .ref (h'.objs.size + 3)], slots := #[] }), (h'.objs.size + 3, OD.raw { cls := .type "tuple", data := .seq #[.none, .none] }), (h'.objs.size, OD.raw oI), (h'.objs.size + 1, OD.raw oJ)] := by
          unfold raws
          simp only [List.map_cons, List.map_nil, atD_of hZ, atD_of hTO, atD_of hoI, atD_of hoJ]
        rw [hr]
        refine ⟨_, m, { s4 with temps := ?_ }⟩
        intro p hp
        simp only [List.cons_append, List.mem_cons, List.mem_append] at hp
        rcases hp with h | h | h | (h | h) | h
        · subst h
          exact .raw (by simp)
        · exact qa.temps p (.tail _ (List.mem_append_right _ (by rw [h]; exact .head _)))
        · exact qa.temps p (by rw [h]; exact .head _)
        · exact qa.temps p (.tail _ (List.mem_append_right _ (.tail _ (List.mem_append_left _ h))))
        · exact qa.temps p (.tail _ (List.mem_append_left _ h))
        · refine qa.temps p (.tail _ (List.mem_append_right _ (.tail _ (List.mem_append_right _ ?_))))
          exact .tail _ (.tail _ h)
      refine ⟨h₂, tk, rfl, _, _, _, _, rfl, Src.ofWalksT (Tw := ((.ref (h'.objs.size + 2), .raw { cls := .type "tuple", data := .seq #[.ref h'.objs.size, .ref (h'.objs.size + 1)] }) :: (.ref l1, .raw (listOf us1.toArray n1)) :: (.ref l2, .raw (listOf us2.toArray n2)) :: (us1.zip ds ++ us2.zip es))) (elts := elts) (k := k) (pos := tp) Wk hn ?_ ?_,
        ⟨h₂, ⟨hZ, hTI, ⟨_, _, hTO⟩, hI1, hI2, hL1.at fun o e => hk _ _ e, hL2.at fun o e => hk _ _ e⟩, ⟨hal, ?_⟩, Nat.zero_le _, rfl, rfl⟩, q₅⟩
      · intro i h st b hb
        obtain ⟨hz, hti, ⟨a', b', hto⟩, ⟨o1, h1, _⟩, ⟨o2, h2, _⟩, _⟩ := st
        simp only [List.mem_cons, List.not_mem_nil, or_false] at hb
        rcases hb with rfl | rfl | rfl | rfl
        · exact ⟨_, hz⟩
        · exact ⟨_, hto⟩
        · exact ⟨_, h1⟩
        · exact ⟨_, h2⟩
      · rintro i vals d' ⟨x, y, hx, hy, rfl⟩ hd
        unfold zipD at hd
        rw [List.getElem?_zipWith] at hd
        have hx' : us1[i]? = some x := by simpa using hx
        have hy' : us2[i]? = some y := by simpa using hy
        have hi1 : i < ds.length := hlen1 ▸ (List.getElem?_eq_some_iff.mp hx').1
        have hi2 : i < es.length := hlen2 ▸ (List.getElem?_eq_some_iff.mp hy').1
        rw [List.getElem?_eq_getElem hi1, List.getElem?_eq_getElem hi2] at hd
        cases hd
        have hm1 : (x, ds[i]) ∈ us1.zip ds := List.mem_of_getElem? (i := i) (by rw [List.getElem?_zip_eq_some]; exact ⟨hx', List.getElem?_eq_getElem hi1⟩)
        have hm2 : (y, es[i]) ∈ us2.zip es := List.mem_of_getElem? (i := i) (by rw [List.getElem?_zip_eq_some]; exact ⟨hy', List.getElem?_eq_getElem hi2⟩)
        exact ⟨_, rfl, fun φ hT => .cons (hT _ (.tail _ (.tail _ (.tail _ (List.mem_append_left _ hm1))))) (.cons (hT _ (.tail _ (.tail _ (.tail _ (List.mem_append_right _ hm2))))) .nil)⟩
      · intro b hb hw
        simp only [List.mem_cons, List.not_mem_nil, or_false] at hb hw
        rcases hb with h | h | h | h | h | h | h
        · exact absurd (.inl h) hw
        · subst h; exact ⟨_, hTI, .head _⟩
        · exact absurd (.inr (.inl h)) hw
        · exact absurd (.inr (.inr (.inl h))) hw
        · exact absurd (.inr (.inr (.inr h))) hw
        · subst h; exact ⟨_, hk _ _ hl1, .tail _ (.head _)⟩
        · subst h; exact ⟨_, hk _ _ hl2, .tail _ (.tail _ (.head _))⟩
end
end Mine

namespace Mine

section
variable {prog : Program} {w : World} {H : Heap} {A : Around} {mg mb : Str → Option Value}

/-- two values are opened -/
theorem P2.ints {f : Value → Value → Sem Value} {i j : Int} {d : D}
    (h : ∀ a ρ O T t u (s : Shared) (R : Value → Shared → Prop), St prog w H a ρ O T s.heap → (∀ v h' tk, St prog w H a ρ O ((v, d) :: T) h' → R v { s with heap := h', toks := tk }) → wpAny (model prog w) A (f (.int i t) (.int j u)) R (fun _ _ => False) s) : P2 prog w H A f (.int i) (.int j) d :=
  fun a ρ O T v1 v2 => Tr.of fun s R K hR => by
    obtain ⟨t, rfl⟩ := K.int (i := i) (v := v1) (.tail _ (.head _))
    obtain ⟨u, rfl⟩ := K.int (i := j) (v := v2) (.head _)
    exact h a ρ O T t u s R (K.sub fun p hp => .tail _ (.tail _ hp)) hR
theorem P2.add {i j : Int} : P2 prog w H A (binaryOp .Add) (.int i) (.int j) (.int (i + j)) := P2.ints fun a ρ O T t u s R K hR => PyProof.Rows.add_int (hR _ s.heap _ K.addInt)
theorem P2.sub {i j : Int} : P2 prog w H A (binaryOp .Sub) (.int i) (.int j) (.int (i - j)) := P2.ints fun a ρ O T t u s R K hR => PyProof.Rows.sub_int (hR _ s.heap _ K.addInt)
theorem P2.mul {i j : Int} (hm : IntMulOk i j) : P2 prog w H A (binaryOp .Mult) (.int i) (.int j) (.int (i * j)) := P2.ints fun a ρ O T t u s R K hR => PyProof.Rows.mul_int (hR _ s.heap _ K.addInt) hm
theorem P2.mod {i j : Int} (hj : j ≠ 0) : P2 prog w H A (binaryOp .Mod) (.int i) (.int j) (.int (i.fmod j)) := P2.ints fun a ρ O T t u s R K hR => PyProof.Rows.mod_int' hj (hR _ s.heap _ K.addInt)
theorem P2.div {i j : Int} (hj : j ≠ 0) (hs : j.natAbs < 1073741824) : P2 prog w H A (binaryOp .FloorDiv) (.int i) (.int j) (.int (i.fdiv j)) := P2.ints fun a ρ O T t u s R K hR => PyProof.Rows.floordiv_int hj (hR _ s.heap _ K.addInt) (.inl (PyProof.noPylong_small hs))
theorem P2.pow {i j : Int} (h0 : 0 ≤ j) (h1 : j ≤ 1000000) (hi : i.natAbs < 2 ^ 64) : P2 prog w H A (binaryOp .Pow) (.int i) (.int j) (.int (i ^ j.toNat)) := P2.ints fun a ρ O T t u s R K hR => PyProof.Rows.pow_int_small h0 h1 hi (hR _ s.heap _ K.addInt)
theorem P2.eqI {i j : Int} : P2 prog w H A (compareOp .Eq) (.int i) (.int j) (.bool (i == j)) := P2.ints fun a ρ O T t u s R K hR => PyProof.Rows.eq_int (hR _ s.heap s.toks K.addBool)
theorem P2.neI {i j : Int} : P2 prog w H A (compareOp .NotEq) (.int i) (.int j) (.bool (i != j)) := P2.ints fun a ρ O T t u s R K hR => PyProof.Rows.ne_int (hR _ s.heap s.toks K.addBool)
theorem P2.ltI {i j : Int} : P2 prog w H A (compareOp .Lt) (.int i) (.int j) (.bool (decide (i < j))) := P2.ints fun a ρ O T t u s R K hR => PyProof.Rows.lt_int (hR _ s.heap s.toks K.addBool)
theorem P2.gtI {i j : Int} : P2 prog w H A (compareOp .Gt) (.int i) (.int j) (.bool (decide (j < i))) := P2.ints fun a ρ O T t u s R K hR => PyProof.Rows.gt_int (hR _ s.heap s.toks K.addBool)

theorem P2.addS {x y : Str} (hsz : x.length + y.length ≤ sizeLine) : P2 prog w H A (binaryOp .Add) (.str x) (.str y) (.str (x ++ y)) := fun a ρ O T v1 v2 => Tr.of fun s R K hR => by
  obtain ⟨t, rfl⟩ := K.str (x := x) (v := v1) (.tail _ (.head _))
  obtain ⟨u, rfl⟩ := K.str (x := y) (v := v2) (.head _)
  exact PyProof.Rows.add_str (fun t' tk => hR _ s.heap tk (K.sub fun p hp => .tail _ (.tail _ hp)).addStr) hsz
theorem P2.eqS {x y : Str} : P2 prog w H A (compareOp .Eq) (.str x) (.str y) (.bool (x == y)) := fun a ρ O T v1 v2 => Tr.of fun s R K hR => by
  obtain ⟨t, rfl⟩ := K.str (x := x) (v := v1) (.tail _ (.head _))
  obtain ⟨u, rfl⟩ := K.str (x := y) (v := v2) (.head _)
  exact PyProof.Rows.eq_str (hR _ s.heap s.toks (K.sub fun p hp => .tail _ (.tail _ hp)).addBool)
theorem P2.neS {x y : Str} : P2 prog w H A (compareOp .NotEq) (.str x) (.str y) (.bool (x != y)) := fun a ρ O T v1 v2 => Tr.of fun s R K hR => by
  obtain ⟨t, rfl⟩ := K.str (x := x) (v := v1) (.tail _ (.head _))
  obtain ⟨u, rfl⟩ := K.str (x := y) (v := v2) (.head _)
  exact PyProof.Rows.ne_str (hR _ s.heap s.toks (K.sub fun p hp => .tail _ (.tail _ hp)).addBool)
/-- y in x -/
theorem P2.inS {x y : Str} : P2 prog w H A (compareOp .In) (.str y) (.str x) (.bool !(Builtin.Str.occurrences x y 0 x.length 1).isEmpty) := fun a ρ O T v1 v2 => Tr.of fun s R K hR => by
  obtain ⟨t, rfl⟩ := K.str (x := y) (v := v1) (.tail _ (.head _))
  obtain ⟨u, rfl⟩ := K.str (x := x) (v := v2) (.head _)
  exact PyProof.Rows.in_str (hR _ s.heap s.toks (K.sub fun p hp => .tail _ (.tail _ hp)).addBool)

/-! lists and tuples -/
theorem RdAll.zip2 {φ : FM} {T : List (Value × D)} {vs ws : List Value} {ds es : List D} (h1 : vs.length = ds.length) (h2 : ws.length = es.length) (hv : ∀ p ∈ vs.zip ds, p ∈ T) (hw : ∀ p ∈ ws.zip es, p ∈ T) (hT : ∀ p ∈ T, Rd prog w φ p.1 p.2) : RdAll prog w φ (vs ++ ws) (ds ++ es) :=
  RdAll.append (RdAll.of_zip h1 fun p hp => hT p (hv p hp)) (RdAll.of_zip h2 fun p hp => hT p (hw p hp))

theorem P2.addL {ds es : List D} (hsz : ds.length + es.length ≤ sizeLine) : P2 prog w H A (binaryOp .Add) (.list ds) (.list es) (.list (ds ++ es)) := fun a ρ O T v1 v2 => Tr.of fun s R K hR => by
  obtain ⟨l, vs, n1, rfl, hl, h1, K₁⟩ := K.listRaw (v := v1) (ds := ds) (.tail _ (.head _))
  obtain ⟨l2, ws, n2, rfl, hl2, h2, K₂⟩ := K₁.listRaw (v := v2) (ds := es) (.tail _ (List.mem_append_right _ (.head _)))
  refine PySem.P.add_list hl hl2 (hR _ _ s.toks ?_) (by rw [List.size_toArray, List.size_toArray, h1, h2]; exact hsz)
  have := K₂.alloc (n := s.heap.objs.size) (d := .list (ds ++ es)) (Keep.push s.heap { cls := .type "list", data := .seq (vs.toArray ++ ws.toArray) }) (fresh_none _) (Heap.get?_push_size _ rfl) (fun φ hT hφ => by
    refine .list (vs := vs ++ ws) (n := 0) (by rw [hφ]; simp) (RdAll.zip2 h1 h2 (fun p hp => ?_) (fun p hp => ?_) hT)
    · exact .tail _ (List.mem_append_right _ (.tail _ (List.mem_append_left _ hp)))
    · exact .tail _ (List.mem_append_left _ hp))
  exact this.sub fun p hp => by
    rcases List.mem_cons.mp hp with rfl | hp
    · exact .head _
    · exact .tail _ (.tail _ (List.mem_append_right _ (.tail _ (List.mem_append_right _ (.tail _ (.tail _ hp))))))

theorem P2.addT {ds es : List D} (hsz : ds.length + es.length ≤ sizeLine) : P2 prog w H A (binaryOp .Add) (.tup ds) (.tup es) (.tup (ds ++ es)) := fun a ρ O T v1 v2 => Tr.of fun s R K hR => by
  obtain ⟨l, vs, n1, rfl, hl, h1, K₁⟩ := K.tup (v := v1) (ds := ds) (.tail _ (.head _))
  obtain ⟨l2, ws, n2, rfl, hl2, h2, K₂⟩ := K₁.tup (v := v2) (ds := es) (List.mem_append_right _ (.head _))
  by_cases hv : vs = []
  · refine concat_meets ⟨_, hl, rfl⟩ ⟨_, hl2, rfl⟩ noFill_tuple_add seq_tuple_add PySem.F.slot_tuple_add PySem.F.entry_tuple_add (PySem.F.args_tuple_add_2 _ _)
      (tuple_addW0 l l2 vs.toArray ws.toArray n1 n2 _ _ _ _ (by simp [hv])) ⟨hl, hl2, hR _ s.heap _ ?_⟩
    have e : ds = [] := by rw [hv] at h1; exact List.length_eq_zero_iff.mp h1.symm
    rw [e, List.nil_append]
    exact K.tail2.sub fun p hp => by
      rcases List.mem_cons.mp hp with rfl | hp
      · exact .head _
      · exact .tail _ hp
  · by_cases hw : ws = []
    · refine concat_meets ⟨_, hl, rfl⟩ ⟨_, hl2, rfl⟩ noFill_tuple_add seq_tuple_add PySem.F.slot_tuple_add PySem.F.entry_tuple_add (PySem.F.args_tuple_add_2 _ _)
        (tuple_addW1 l l2 vs.toArray ws.toArray n1 n2 _ _ _ _ (by simpa using hv) (by simp [hw])) ⟨hl, hl2, hR _ s.heap _ ?_⟩
      have e : es = [] := by rw [hw] at h2; exact List.length_eq_zero_iff.mp h2.symm
      rw [e, List.append_nil]
      exact K.tail
    · refine concat_meets ⟨_, hl, rfl⟩ ⟨_, hl2, rfl⟩ noFill_tuple_add seq_tuple_add PySem.F.slot_tuple_add PySem.F.entry_tuple_add (PySem.F.args_tuple_add_2 _ _)
        (tuple_addW2 l l2 vs.toArray ws.toArray n1 n2 _ _ _ _ (by simpa using hv) (by simpa using hw) (by rw [List.size_toArray, List.size_toArray, h1, h2]; exact hsz)) ⟨hl, hl2, hR _ _ _ ?_⟩
      have := K₂.alloc (n := s.heap.objs.size) (d := .tup (ds ++ es)) (Keep.push s.heap { cls := .type "tuple", data := .seq (vs.toArray ++ ws.toArray) }) (fresh_none _) (Heap.get?_push_size _ rfl) (fun φ hT hφ => by
        refine .tup (vs := vs ++ ws) (n := 0) (by rw [hφ]; simp) (RdAll.zip2 h1 h2 (fun p hp => ?_) (fun p hp => ?_) hT)
        · exact List.mem_append_right _ (List.mem_append_left _ hp)
        · exact List.mem_append_left _ hp)
      exact this.sub fun p hp => by
        rcases List.mem_cons.mp hp with rfl | hp
        · exact .head _
        · exact .tail _ (List.mem_append_right _ (List.mem_append_right _ (.tail _ (.tail _ hp))))

/-! is -/
theorem P2.isNotB {b c : Bool} : P2 prog w H A (compareOp .IsNot) (.bool b) (.bool c) (.bool (b != c)) := fun a ρ O T v1 v2 => Tr.of fun s R K hR => by
  have e1 := K.bool (b := b) (v := v1) (.tail _ (.head _))
  have e2 := K.bool (b := c) (v := v2) (.head _)
  subst e1 e2
  refine wpAny_isNot_plain rfl (hR _ s.heap s.toks ?_)
  have : (!(Value.bool b == Value.bool c)) = (b != c) := by cases b <;> cases c <;> rfl
  rw [this]
  exact (K.sub fun p hp => .tail _ (.tail _ hp)).addBool
theorem P2.isN {x : Str} : P2 prog w H A (compareOp .Is) (.str x) .none (.bool false) := fun a ρ O T v1 v2 => Tr.of fun s R K hR => by
  obtain ⟨t, rfl⟩ := K.str (x := x) (v := v1) (.tail _ (.head _))
  have e2 := K.noneV (v := v2) (.head _)
  subst e2
  exact wpAny_is_plain rfl (hR _ s.heap s.toks (K.sub fun p hp => .tail _ (.tail _ hp)).addBool)
theorem P2.isNN : P2 prog w H A (compareOp .Is) .none .none (.bool true) := fun a ρ O T v1 v2 => Tr.of fun s R K hR => by
  have e1 := K.noneV (v := v1) (.tail _ (.head _))
  have e2 := K.noneV (v := v2) (.head _)
  subst e1 e2
  exact wpAny_is_plain rfl (hR _ s.heap s.toks (K.sub fun p hp => .tail _ (.tail _ hp)).addBool)

/-! == of data -/
inductive EqD : D → D → Bool → Prop
  | int (i j : Int) : EqD (.int i) (.int j) (i == j)
  | str (x y : Str) : EqD (.str x) (.str y) (x == y)
  | tup {is js : List Int} : EqD (.tup (is.map .int)) (.tup (js.map .int)) (is == js)

theorem beq_ints (is js : List Int) : (((List.range (min is.length js.length)).all fun j => is.getD j 0 == js.getD j 0) && is.length == js.length) = (is == js) := by
  rw [Bool.eq_iff_iff]
  simp only [Bool.and_eq_true, List.all_eq_true, List.mem_range, beq_iff_eq]
  constructor
  · rintro ⟨h1, h2⟩
    apply List.ext_getElem h2
    intro i hi hi'
    have := h1 i (Nat.lt_min.mpr ⟨hi, hi'⟩)
    simpa [List.getD, hi, hi'] using this
  · rintro rfl
    exact ⟨fun _ _ => rfl, rfl⟩
theorem EqD.tuples {is js : List Int} {s : Shared} {l l2 : Addr} {vs ws : List Value} {n n2 : Nat} (e1 : s.heap.get? l = some { cls := .type "tuple", data := .seq (List.toArray vs) n }) (e2 : s.heap.get? l2 = some { cls := .type "tuple", data := .seq (List.toArray ws) n2 }) (r1 : IntsAre vs is) (r2 : IntsAre ws js) (hroom : A.units + 1 < cLine) : SeqAt.EqAt A s (.ref l) (.ref l2) (is == js) := by
  have len1 : vs.toArray.size = is.length := by rw [List.size_toArray, IntsAre.length r1]
  have len2 : ws.toArray.size = js.length := by rw [List.size_toArray, IntsAre.length r2]
  by_cases hne : l = l2
  · subst hne
    rw [e1] at e2
    have ev : vs = ws := by
      have := congrArg Obj.data (Option.some.inj e2)
      simpa using (Data.seq.inj this).1
    rw [ints_val r1, ints_val r2, ev, beq_self_eq_true]
    exact SeqAt.EqAt.same _
  · have := SeqAt.RcAt.tuples (A := A) (e := fun j => is.getD j 0 == js.getD j 0) ⟨_, e1, rfl, n, rfl⟩ ⟨_, e2, rfl, n2, rfl⟩ (Nat.lt_of_succ_lt hroom) (fun j h1 h2 => by
      obtain ⟨t1, i1⟩ := IntsAre.int_at r1 j vs.toArray[j] (by simpa using (List.getElem?_eq_getElem (by simpa using h1)))
      obtain ⟨t2, i2⟩ := IntsAre.int_at r2 j ws.toArray[j] (by simpa using (List.getElem?_eq_getElem (by simpa using h2)))
      rw [i1, i2]
      exact SeqAt.EqAt.int_int _ _ _ _)
    rw [len1, len2, beq_ints] at this
    exact SeqAt.EqAt.of_refs hne this
theorem EqD.here {d e : D} {b : Bool} (x : EqD d e b) {φ : FM} {v u : Value} {s : Shared} (hs : ∀ b o, φ b = some o → s.heap.get? b = some o) (hv : Rd prog w φ v d) (hu : Rd prog w φ u e) (hroom : A.units + 1 < cLine) : SeqAt.EqAt A s v u b := by
  match x with
  | .int i j =>
    obtain ⟨t, rfl⟩ := hv.inv
    obtain ⟨t', rfl⟩ := hu.inv
    exact SeqAt.EqAt.int_int _ _ _ _
  | .str x y =>
    obtain ⟨t, rfl⟩ := hv.inv
    obtain ⟨t', rfl⟩ := hu.inv
    exact SeqAt.EqAt.str_str _ _ _ _
  | .tup =>
    obtain ⟨l, vs, n, rfl, e1, r1⟩ := hv.inv
    obtain ⟨l2, ws, n2, rfl, e2, r2⟩ := hu.inv
    exact EqD.tuples (hs _ _ e1) (hs _ _ e2) (ints_are r1) (ints_are r2) hroom

inductive Simple : D → Prop
  | int (i : Int) : Simple (.int i)
  | str (x : Str) : Simple (.str x)
  | tup (is : List Int) : Simple (.tup (is.map .int))
theorem EqD.simple {d e : D} {b : Bool} (x : EqD d e b) : Simple d := by cases x <;> constructor
theorem Rd.uniq {φ : FM} {v : Value} {d e : D} (hd : Simple d) (he : Simple e) (x : Rd prog w φ v d) (y : Rd prog w φ v e) : d = e := by
  match d, e, hd, he with
  | _, _, .int i, .int j =>
    obtain ⟨t, rfl⟩ := x.inv
    obtain ⟨t', h⟩ := y.inv
    rw [(Value.int.inj h).1]
  | _, _, .str i, .str j =>
    obtain ⟨t, rfl⟩ := x.inv
    obtain ⟨t', h⟩ := y.inv
    rw [(Value.str.inj h).1]
  | _, _, .tup is, .tup js =>
    obtain ⟨l, vs, n, rfl, e1, r1⟩ := x.inv
    obtain ⟨_, ws, n2, h, e2, r2⟩ := y.inv
    rw [← Value.ref.inj h, e1] at e2
    have ev : vs = ws := by
      have := congrArg Obj.data (Option.some.inj e2)
      simpa using (Data.seq.inj this).1
    rw [ints_val (ints_are r1), ints_val (ints_are r2), ev]
  | _, _, .int i, .str j => obtain ⟨t, rfl⟩ := x.inv; obtain ⟨t', h⟩ := y.inv; cases h
  | _, _, .int i, .tup j => obtain ⟨t, rfl⟩ := x.inv; obtain ⟨_, _, _, h, _⟩ := y.inv; cases h
  | _, _, .str i, .int j => obtain ⟨t, rfl⟩ := x.inv; obtain ⟨t', h⟩ := y.inv; cases h
  | _, _, .str i, .tup j => obtain ⟨t, rfl⟩ := x.inv; obtain ⟨_, _, _, h, _⟩ := y.inv; cases h
  | _, _, .tup i, .int j => obtain ⟨_, _, _, rfl, _⟩ := x.inv; obtain ⟨t', h⟩ := y.inv; cases h
  | _, _, .tup i, .str j => obtain ⟨_, _, _, rfl, _⟩ := x.inv; obtain ⟨t', h⟩ := y.inv; cases h

open Classical in
theorem in_core {φ : FM} {s : Shared} {vs : List Value} {v : Value} {d : D} {ds : List D} (e : D → Bool) (hs : ∀ b o, φ b = some o → s.heap.get? b = some o) (hr : RdAll prog w φ vs ds) (hv : Rd prog w φ v d)
    (he : ∀ y ∈ ds, EqD y d (e y)) (hroom : A.units + 2 < cLine) : ∃ ev : Value → Bool, (∀ y, y ∈ vs.toArray → SeqAt.EqAt A.in1 s y v (ev y)) ∧ vs.toArray.any ev = ds.any e := by
  have pick : ∀ i y, vs[i]? = some y → ∃ d', ds[i]? = some d' ∧ d' ∈ ds ∧ Rd prog w φ y d' := fun i y hi => by
    obtain ⟨d', hd', r⟩ := hr.get' hi
    exact ⟨d', hd', List.mem_of_getElem? hd', r⟩
  have val : ∀ y d', d' ∈ ds → Rd prog w φ y d' → decide (∃ d'', d'' ∈ ds ∧ Rd prog w φ y d'' ∧ e d'' = true) = e d' := fun y d' hm r => by
    cases h : e d' with
    | true => exact decide_eq_true ⟨d', hm, r, h⟩
    | false =>
      refine decide_eq_false fun ⟨d'', hm', r', h'⟩ => ?_
      rw [Rd.uniq (he d'' hm').simple (he d' hm).simple r' r, h] at h'
      cases h'
  refine ⟨fun y => decide (∃ d', d' ∈ ds ∧ Rd prog w φ y d' ∧ e d' = true), fun y hy => ?_, ?_⟩
  · have hy' : y ∈ vs := by simpa using hy
    obtain ⟨i, hi⟩ := List.mem_iff_getElem?.mp hy'
    obtain ⟨d', hd', hm, r⟩ := pick i y hi
    dsimp only
    rw [val y d' hm r]
    exact (he d' hm).here hs r hv (by show A.units + 1 + 1 < cLine; omega)
  · rw [Bool.eq_iff_iff]
    simp only [List.any_toArray, List.any_eq_true]
    constructor
    · rintro ⟨y, hy, h⟩
      obtain ⟨i, hi⟩ := List.mem_iff_getElem?.mp hy
      obtain ⟨d', hd', hm, r⟩ := pick i y hi
      rw [val y d' hm r] at h
      exact ⟨d', hm, h⟩
    · rintro ⟨d', hm, h⟩
      obtain ⟨i, hi⟩ := List.mem_iff_getElem?.mp hm
      obtain ⟨y, hy, r⟩ := hr.get hi
      exact ⟨y, List.mem_of_getElem? hy, by rw [val y d' hm r]; exact h⟩

theorem P2.inL {d : D} {ds : List D} (e : D → Bool) (he : ∀ y ∈ ds, EqD y d (e y)) (hroom : A.units + 2 < cLine) : P2 prog w H A (compareOp .In) d (.list ds) (.bool (ds.any e)) := fun a ρ O T v1 v2 => Tr.of fun s R K hR => by
  obtain ⟨φ, m, q⟩ := id K
  have hq := q.temps _ (.head _)
  obtain ⟨l, vs, n, rfl, e1, r⟩ := hq.inv
  · obtain ⟨ev, h1, h2⟩ := in_core (s := s) e q.sub r (q.temps (v1, d) (.tail _ (.head _))) he hroom
    exact SeqAt.in_listAt ev ⟨_, q.sub _ _ e1, rfl, n, rfl⟩ h1 (hR _ s.heap s.toks (by rw [h2]; exact (K.sub fun p hp => .tail _ (.tail _ hp)).addBool))
theorem P2.notInL {d : D} {ds : List D} (e : D → Bool) (he : ∀ y ∈ ds, EqD y d (e y)) (hroom : A.units + 2 < cLine) : P2 prog w H A (compareOp .NotIn) d (.list ds) (.bool (!ds.any e)) := fun a ρ O T v1 v2 => Tr.of fun s R K hR => by
  obtain ⟨φ, m, q⟩ := id K
  have hq := q.temps _ (.head _)
  obtain ⟨l, vs, n, rfl, e1, r⟩ := hq.inv
  · obtain ⟨ev, h1, h2⟩ := in_core (s := s) e q.sub r (q.temps (v1, d) (.tail _ (.head _))) he hroom
    exact SeqAt.notIn_listAt ev ⟨_, q.sub _ _ e1, rfl, n, rfl⟩ h1 (hR _ s.heap s.toks (by rw [h2]; exact (K.sub fun p hp => .tail _ (.tail _ hp)).addBool))
/-- d not in an own list, which stands first -/
theorem notIn_own {a : Act} {ρ : Rho} {O : List (Addr × OD)} {T : List (Value × D)} {n : Addr} {v : Value} {d : D} {ds : List D} (e : D → Bool) (he : ∀ y ∈ ds, EqD y d (e y)) (hroom : A.units + 2 < cLine) :
    Tr prog w A (compareOp .NotIn v (.ref n)) (St prog w H a ρ ((n, .list ds) :: O) ((v, d) :: T)) (fun r h => r = .bool (!ds.any e) ∧ St prog w H a ρ ((n, .list ds) :: O) T h) := Tr.of fun s R K hR => by
  obtain ⟨φ, m, q⟩ := id K
  obtain ⟨o, ho, vs, k, rfl, r⟩ := q.own _ (.head _)
  obtain ⟨ev, h1, h2⟩ := in_core (s := s) e q.sub r (q.temps (v, d) (.head _)) he hroom
  exact SeqAt.notIn_listAt ev ⟨_, ho, rfl, k, rfl⟩ h1 (hR _ s.heap s.toks ⟨by rw [h2], K.tail⟩)

/-! == of lists of ints -/
theorem P2.eqLI {ns ms : List Int} (hu : A.units + 64 < cLine) : P2 prog w H A (compareOp .Eq) (.list (ns.map .int)) (.list (ms.map .int)) (.bool (decide (ns = ms))) := fun a ρ O T v1 v2 => Tr.of fun s R K hR => by
  obtain ⟨φ, m, q⟩ := id K
  have h1 := q.temps (v1, _) (.tail _ (.head _))
  have h2 := q.temps (v2, _) (.head _)
  obtain ⟨l, vs, n, rfl, e1, r1⟩ := h1.inv
  · obtain ⟨l2, ws, n2, rfl, e2, r2⟩ := h2.inv
    · exact ke_eq_ints ⟨_, q.sub _ _ e1, rfl, n, rfl⟩ ⟨_, q.sub _ _ e2, rfl, n2, rfl⟩ (ints_are r1) (ints_are r2) hu (hR _ s.heap s.toks (K.sub fun p hp => .tail _ (.tail _ hp)).addBool)
theorem P2.neLI {ns ms : List Int} (hu : A.units + 64 < cLine) : P2 prog w H A (compareOp .NotEq) (.list (ns.map .int)) (.list (ms.map .int)) (.bool (!decide (ns = ms))) := fun a ρ O T v1 v2 => Tr.of fun s R K hR => by
  obtain ⟨φ, m, q⟩ := id K
  have h1 := q.temps (v1, _) (.tail _ (.head _))
  have h2 := q.temps (v2, _) (.head _)
  obtain ⟨l, vs, n, rfl, e1, r1⟩ := h1.inv
  · obtain ⟨l2, ws, n2, rfl, e2, r2⟩ := h2.inv
    · exact ke_ne_ints ⟨_, q.sub _ _ e1, rfl, n, rfl⟩ ⟨_, q.sub _ _ e2, rfl, n2, rfl⟩ (ints_are r1) (ints_are r2) hu (hR _ s.heap s.toks (K.sub fun p hp => .tail _ (.tail _ hp)).addBool)
end
end Mine

namespace Mine

noncomputable def pickI (lo hi st : Option Int) (n : Nat) : List Nat := sliceRange (sliceBounds lo hi st n).1 (sliceBounds lo hi st n).2.1 (sliceBounds lo hi st n).2.2
noncomputable def pickL {α : Type} (ds : List α) (lo hi st : Option Int) : List α := (pickI lo hi st ds.length).filterMap (ds[·]?)
noncomputable def tpick (ds : List D) (lo hi : Option Int) : List D := (List.range (Builtin.Slice.slicePlaces (Builtin.Slice.sliceAdjust lo hi 1 ds.length).1 (Builtin.Slice.sliceAdjust lo hi 1 ds.length).2 1)).filterMap fun (k : Nat) => ds[((Builtin.Slice.sliceAdjust lo hi 1 ds.length).1 + (k : Int) * 1).toNat]?

section
variable {prog : Program} {w : World} {H : Heap} {A : Around} {a : Act} {ρ : Rho} {O : List (Addr × OD)} {T : List (Value × D)} {φ : FM} {m : Str → Option Value} {h h' : Heap} {mg mb : Str → Option Value}

theorem RdAll.picked {vs : List Value} {ds : List D} (hr : RdAll prog w φ vs ds) (f : Nat → Nat) (l : List Nat) : RdAll prog w φ (l.filterMap fun i => vs[f i]?) (l.filterMap fun i => ds[f i]?) := by
  induction l with
  | nil => exact .nil
  | cons i l ih =>
    rw [List.filterMap_cons, List.filterMap_cons]
    cases hv : vs[f i]? with
    | none =>
      have : ds[f i]? = none := by
        have := List.getElem?_eq_none_iff.mp hv
        exact List.getElem?_eq_none (by rw [← hr.length]; exact this)
      rw [this]; exact ih
    | some v =>
      obtain ⟨d, hd, r⟩ := hr.get' hv
      rw [hd]; exact .cons r ih

/-! slices -/
inductive EvP (prog : Program) (w : World) (H : Heap) (A : Around) (a : Act) (ρ : Rho) (O : List (Addr × OD)) : Option Expr → Option Int → Prop
  | none : EvP prog w H A a ρ O none none
  | some {e : Expr} {i : Int} : Ev prog w H A a ρ O e (.int i) → EvP prog w H A a ρ O (some e) (some i)
theorem EvP.run {x : Option Expr} {k : Option Int} (p : EvP prog w H A a ρ O x k) : Tr prog w A (evalPart x a.env) (St prog w H a ρ O T) (fun v h => IsPart v k ∧ St prog w H a ρ O T h) := by
  cases p with
  | none => exact Tr.of fun s R K hR => wpAny_pure (hR _ s.heap s.toks ⟨.none, K⟩)
  | some x =>
    refine Tr.of fun s R K hR => (x T).use K fun v h' tk q => ?_
    obtain ⟨t, rfl⟩ := q.int (.head _)
    exact hR _ h' tk ⟨.int _ _, q.tail⟩
theorem Ev.slice {lo hi st : Option Expr} {p : Pos} {i j k : Option Int} (x : EvP prog w H A a ρ O lo i) (y : EvP prog w H A a ρ O hi j) (z : EvP prog w H A a ρ O st k) : Ev prog w H A a ρ O (.Slice lo hi st p) (.slice i j k) :=
  fun T => Tr.of fun s R K hR => wpAny_Slice (x.run.use K fun v1 h1 t1 q1 => (y.run (T := T)).use (s := { s with heap := h1, toks := t1 }) q1.2 fun v2 h2 t2 q2 => (z.run (T := T)).use (s := { s with heap := h2, toks := t2 }) q2.2 fun v3 h3 t3 q3 =>
    hR _ _ t3 (q3.2.alloc (Keep.push _ _) (fresh_none _) (Heap.get?_push_size _ rfl) fun φ _ e => .slice e q1.1 q2.1 q3.1))

/-! subscripts -/
noncomputable def HasItem (prog : Program) (w : World) (d : D) : Prop := ∀ (φ : FM) (v : Value) (s : Shared), (∀ b o, φ b = some o → s.heap.get? b = some o) → Rd prog w φ v d → ∃ T id, s.TypeIs v T ∧ typeLookup (.type T) "__getitem__" = pure (some (.builtin id))
theorem HasItem.list {ds : List D} : HasItem prog w (.list ds) := fun φ v s hs r => by
  obtain ⟨_, _, _, rfl, e, _⟩ := r.inv
  exact ⟨"list", _, ⟨_, hs _ _ e, rfl⟩, slot_list_getitem.lookup⟩
theorem HasItem.tup {ds : List D} : HasItem prog w (.tup ds) := fun φ v s hs r => by
  obtain ⟨_, _, _, rfl, e, _⟩ := r.inv
  exact ⟨"tuple", _, ⟨_, hs _ _ e, rfl⟩, PySem.F.slot_tuple_getitem.lookup⟩
theorem HasItem.dict {kvs : List (Str × Int)} : HasItem prog w (.dict kvs) := fun φ v s hs r => by
  obtain ⟨_, _, rfl, e, hd, _⟩ := r.inv
  obtain ⟨_, ⟨_, _, hE, _⟩, _⟩ := hd; exact ⟨"dict", _, ⟨_, hs _ _ e, hE.1⟩, slot_dict_getitem.lookup⟩
theorem HasItem.arg {ds : List D} : HasItem prog w (.arg ds) := fun φ v s hs r => by
  obtain ⟨_, _, _, _, rfl, e, hc, _, _⟩ := r.inv
  exact ⟨"list", _, ⟨_, hs _ _ e, hc⟩, slot_list_getitem.lookup⟩
theorem HasItem.str {x : Str} : HasItem prog w (.str x) := fun φ v s hs r => by
  obtain ⟨t, rfl⟩ := r.inv
  exact ⟨"str", _, typeIs_str s x t, PySem.F.slot_str_getitem.lookup⟩

theorem Ev.sub {value slice : Expr} {pos : Pos} {d1 d2 d : D} (x : Ev prog w H A a ρ O value d1) (y : Ev prog w H A a ρ O slice d2) (hk : HasItem prog w d1) (z : P2 prog w H A getItem d1 d2 d)
    (hs : ∀ o i, ∃ ops, subscripted slice false o i = operate ops (getItem o i) := by intro o i; exact ⟨_, rfl⟩) : Ev prog w H A a ρ O (.Subscript value slice pos) d :=
  fun T => Tr.of fun s R K hR => Subscript_ ((x T).use K fun v1 h1 t1 q1 => (y _).use (s := { s with heap := h1, toks := t1 }) q1 fun v2 h2 t2 q2 => by
    obtain ⟨φ, m, q⟩ := id q2
    obtain ⟨cn, id, hT, hl⟩ := hk φ v1 { s with heap := h2, toks := t2 } q.sub (q.temps (v1, d1) (.tail _ (.head _)))
    obtain ⟨ops, ho⟩ := hs v1 v2
    exact tail_any hT hl ((z a ρ O T v1 v2).use (s := { s with heap := h2, toks := t2 }) q2 fun v h' tk q' => hR v h' tk q') ho)

theorem P2.itemL {ds : List D} {k : Int} {d : D} (h0 : 0 ≤ k) (hf : k < 2 ^ 63) (hd : ds[k.toNat]? = some d) : P2 prog w H A getItem (.list ds) (.int k) d := fun a ρ O T v1 v2 => Tr.of fun s R K hR => by
  obtain ⟨t, rfl⟩ := K.int (i := k) (v := v2) (.head _)
  obtain ⟨φ, m, q⟩ := id K
  have hq := q.temps (v1, .list ds) (.tail _ (.head _))
  obtain ⟨l, vs, n, rfl, e, r⟩ := hq.inv
  · obtain ⟨v, hv, rv⟩ := r.get hd
    refine wpAny_getItem_list ⟨_, q.sub _ _ e, rfl, n, rfl⟩ h0 hf (x := v) (by simpa using hv) (hR _ s.heap s.toks ⟨φ, m, { q with temps := ?_ }⟩)
    intro p hp
    rcases List.mem_cons.mp hp with rfl | hp
    · exact rv
    · exact q.temps p (.tail _ (.tail _ hp))
theorem P2.itemLast {ds : List D} {d : D} (hsz : ds.length ≤ sizeLine) (hd : ds[ds.length - 1]? = some d) : P2 prog w H A getItem (.list ds) (.int (-1)) d := fun a ρ O T v1 v2 => Tr.of fun s R K hR => by
  obtain ⟨t, rfl⟩ := K.int (i := -1) (v := v2) (.head _)
  obtain ⟨φ, m, q⟩ := id K
  have hq := q.temps (v1, .list ds) (.tail _ (.head _))
  obtain ⟨l, vs, n, rfl, e, r⟩ := hq.inv
  · obtain ⟨v, hv, rv⟩ := r.get hd
    have hlen := r.length
    have hlt := (List.getElem?_eq_some_iff.mp hd).1
    refine wpAny_getItem_list_neg ⟨_, q.sub _ _ e, rfl, n, rfl⟩ (by decide) (by rw [List.size_toArray]; omega) (by decide) (x := v) ?_ (hR _ s.heap s.toks ⟨φ, m, { q with temps := ?_ }⟩)
    · rw [List.size_toArray, show (-1 + (vs.length : Int)).toNat = ds.length - 1 by omega]
      simpa using hv
    · intro p hp
      rcases List.mem_cons.mp hp with rfl | hp
      · exact rv
      · exact q.temps p (.tail _ (.tail _ hp))
/-- the last of an own list that stands first -/
theorem itemLast_own {n : Addr} {v2 : Value} {ds : List D} {d : D} (hd : ds[ds.length - 1]? = some d) :
    Tr prog w A (getItem (.ref n) v2) (St prog w H a ρ ((n, .list ds) :: O) ((v2, .int (-1)) :: T)) (fun v => St prog w H a ρ ((n, .list ds) :: O) ((v, d) :: T)) := Tr.of fun s R K hR => by
  obtain ⟨t, rfl⟩ := K.int (i := -1) (v := v2) (.head _)
  obtain ⟨φ, m, q⟩ := id K
  obtain ⟨o, ho, vs, k, rfl, r⟩ := q.own _ (.head _)
  obtain ⟨v, hv, rv⟩ := r.get hd
  have hlen := r.length
  have hlt := (List.getElem?_eq_some_iff.mp hd).1
  refine wpAny_getItem_list_neg ⟨_, ho, rfl, k, rfl⟩ (by decide) (by rw [List.size_toArray]; omega) (by decide) (x := v) ?_ (hR _ s.heap s.toks ⟨φ, m, { q with temps := ?_ }⟩)
  · rw [List.size_toArray, show (-1 + (vs.length : Int)).toNat = ds.length - 1 by omega]
    simpa using hv
  · intro p hp
    rcases List.mem_cons.mp hp with rfl | hp
    · exact rv
    · exact q.temps p (.tail _ hp)
theorem P2.itemT {ds : List D} {k : Int} {j : Nat} {d : D} (h0 : -(2 ^ 63) ≤ k) (hf : k < 2 ^ 63) (hj : seqIndex? k ds.length = some j) (hd : ds[j]? = some d) : P2 prog w H A getItem (.tup ds) (.int k) d := fun a ρ O T v1 v2 => Tr.of fun s R K hR => by
  obtain ⟨t, rfl⟩ := K.int (i := k) (v := v2) (.head _)
  obtain ⟨φ, m, q⟩ := id K
  have hq := q.temps (v1, .tup ds) (.tail _ (.head _))
  obtain ⟨l, vs, n, rfl, e, r⟩ := hq.inv
  · obtain ⟨v, hv, rv⟩ := r.get hd
    refine PyProof.Rows.getItem_tuple ⟨_, q.sub _ _ e, rfl, n, rfl⟩ h0 hf (j := j) (x := v) (by rw [List.size_toArray, r.length]; exact hj) (by simpa using hv) (hR _ s.heap s.toks ⟨φ, m, { q with temps := ?_ }⟩)
    intro p hp
    rcases List.mem_cons.mp hp with rfl | hp
    · exact rv
    · exact q.temps p (.tail _ (.tail _ hp))
theorem P2.itemS {x : Str} {k : Int} {c : Nat} (hr : (decide (k < -(2 ^ 63 : Int)) || decide (k ≥ 2 ^ 63)) = false) (hc : (seqIndex? k x.length).bind (x.cps[·]?) = some c) : P2 prog w H A getItem (.str x) (.int k) (.str ⟨#[c]⟩) := fun a ρ O T v1 v2 => Tr.of fun s R K hR => by
  obtain ⟨t, rfl⟩ := K.int (i := k) (v := v2) (.head _)
  obtain ⟨u, rfl⟩ := K.str (x := x) (v := v1) (.tail _ (.head _))
  exact PyProof.Rows.getItem_str hr hc (hR _ s.heap _ (K.sub fun p hp => .tail _ (.tail _ hp)).addStr)
theorem P2.itemD {kvs : List (Str × Int)} {k : Str} {i : Int} (hk : kvs.find? (fun p => p.1 = k) = some (k, i)) : P2 prog w H A getItem (.dict kvs) (.str k) (.int i) := fun a ρ O T v1 v2 => Tr.of fun s R K hR => by
  obtain ⟨t, rfl⟩ := K.str (x := k) (v := v2) (.head _)
  obtain ⟨φ, m, q⟩ := id K
  have hq := q.temps (v1, .dict kvs) (.tail _ (.head _))
  obtain ⟨n, o, rfl, e, hdo, hS⟩ := hq.inv
  · obtain ⟨kv, ep, hm, htv⟩ := hdo.at (q.sub _ _ e)
    have hval : ∃ u, valueAt kv k = some (.int i u) := by
      unfold valueAt
      have : ∀ (kv : List (Str × Value)) (kvs : List (Str × Int)), kv.map tv = kvs.map (fun p => (p.1, some p.2)) → kvs.find? (fun p => p.1 = k) = some (k, i) → ∃ u, (kv.find? fun p => p.1 = k).map (·.2) = some (.int i u) := by
        intro kv
        induction kv with
        | nil => intro kvs e h; cases kvs with | nil => cases h | cons _ _ => simp at e
        | cons p kv ih =>
          intro kvs e h
          cases kvs with
          | nil => simp at e
          | cons p' kvs =>
            rw [List.map_cons, List.map_cons, List.cons.injEq] at e
            obtain ⟨n, t, h1, h2⟩ := tv_get (kv := [p]) (kvs := [p']) (i := 0) (k := p.1) (v := p.2) (by rw [List.map_cons, List.map_cons, e.1]; rfl) rfl
            simp at h1
            subst h1
            rw [List.find?_cons] at h ⊢
            by_cases hp : p.1 = k
            · simp only [hp, decide_true] at h ⊢
              cases h
              exact ⟨t, by rw [Option.map_some, h2]⟩
            · simp only [hp, decide_false] at h ⊢
              exact ih kvs e.2 h
      exact this kv kvs htv hk
    obtain ⟨u, hu⟩ := hval
    refine wpAny_getItem_of (knd := PySem.strKind prog w) (k := k) (by simp [PySem.strKind, Value.isStrOf]) hm.dictOf.mapOf hu (hR _ s.heap _ (K.sub fun p hp => .tail _ (.tail _ hp)).addInt)

theorem P2.sliceL {ds : List D} {lo hi st : Option Int} (h0 : st ≠ some 0) (hsz : ds.length ≤ sizeLine) : P2 prog w H A getItem (.list ds) (.slice lo hi st) (.list (pickL ds lo hi st)) := fun a ρ O T v1 v2 => Tr.of fun s R K hR => by
  obtain ⟨φ, m, q⟩ := id K
  have hq := q.temps (v1, .list ds) (.tail _ (.head _))
  have hq2 := q.temps (v2, .slice lo hi st) (.head _)
  obtain ⟨l, vs, n, rfl, e, r⟩ := hq.inv
  · obtain ⟨sl, u1, u2, u3, rfl, e2, p1, p2, p3⟩ := hq2.inv
    · refine wpAny_getItem_list_slice ⟨_, q.sub _ _ e, rfl, n, rfl⟩ ⟨_, q.sub _ _ e2, rfl, rfl⟩ p1 p2 p3 h0 (hR _ _ s.toks ?_) (by rw [List.size_toArray, r.length]; exact hsz)
      have q' := q.alloc (h' := s.heap.push { cls := .type "list", data := .seq (slicePick vs.toArray lo hi st) }) (Keep.push _ _) (fun b => if b = s.heap.objs.size then some { cls := .type "list", data := .seq (slicePick vs.toArray lo hi st) } else none) (by intro b o' e; split at e <;> cases e; rename_i hb; subst hb; exact ⟨fresh_none _, Heap.get?_push_size _ rfl⟩)
      refine ⟨_, m, { q' with temps := ?_ }⟩
      intro p hp
      rcases List.mem_cons.mp hp with rfl | hp
      · have hsz' : vs.toArray.size = ds.length := by rw [List.size_toArray, r.length]
        refine .list (vs := (pickI lo hi st ds.length).filterMap (vs[·]?)) (n := 0) ?_ ((RdAll.picked (r.mono ?_) id _))
        · rw [if_pos rfl]
          unfold slicePick pickI
          rw [hsz']
          simp
        · intro b o' e'
          by_cases hb : b = s.heap.objs.size
          · rw [hb, q.phi_free (fresh_none _)] at e'; cases e'
          · rw [if_neg hb]; exact e'
      · exact q'.temps p (.tail _ (.tail _ hp))

theorem P2.sliceA {ds : List D} {lo hi st : Option Int} (h0 : st ≠ some 0) (hsz : ds.length ≤ sizeLine) : P2 prog w H A getItem (.arg ds) (.slice lo hi st) (.list (pickL ds lo hi st)) := fun a ρ O T v1 v2 => Tr.of fun s R K hR => by
  obtain ⟨φ, m, q⟩ := id K
  have hq := q.temps (v1, .arg ds) (.tail _ (.head _))
  have hq2 := q.temps (v2, .slice lo hi st) (.head _)
  obtain ⟨l, o, vs, n, rfl, e, hc, hd, r⟩ := hq.inv
  · obtain ⟨sl, u1, u2, u3, rfl, e2, p1, p2, p3⟩ := hq2.inv
    · refine wpAny_getItem_list_slice ⟨o, q.sub _ _ e, hc, n, hd⟩ ⟨_, q.sub _ _ e2, rfl, rfl⟩ p1 p2 p3 h0 (hR _ _ s.toks ?_) (by rw [List.size_toArray, r.length]; exact hsz)
      have q' := q.alloc (h' := s.heap.push { cls := .type "list", data := .seq (slicePick vs.toArray lo hi st) }) (Keep.push _ _) (fun b => if b = s.heap.objs.size then some { cls := .type "list", data := .seq (slicePick vs.toArray lo hi st) } else none) (by intro b o' e; split at e <;> cases e; rename_i hb; subst hb; exact ⟨fresh_none _, Heap.get?_push_size _ rfl⟩)
      refine ⟨_, m, { q' with temps := ?_ }⟩
      intro p hp
      rcases List.mem_cons.mp hp with rfl | hp
      · have hsz' : vs.toArray.size = ds.length := by rw [List.size_toArray, r.length]
        refine .list (vs := (pickI lo hi st ds.length).filterMap (vs[·]?)) (n := 0) ?_ ((RdAll.picked (r.mono ?_) id _))
        · rw [if_pos rfl]
          unfold slicePick pickI
          rw [hsz']
          simp
        · intro b o' e'
          by_cases hb : b = s.heap.objs.size
          · rw [hb, q.phi_free (fresh_none _)] at e'; cases e'
          · rw [if_neg hb]; exact e'
      · exact q'.temps p (.tail _ (.tail _ hp))

theorem P2.itemA {ds : List D} {k : Int} {d : D} (h0 : 0 ≤ k) (hf : k < 2 ^ 63) (hd : ds[k.toNat]? = some d) : P2 prog w H A getItem (.arg ds) (.int k) d := fun a ρ O T v1 v2 => Tr.of fun s R K hR => by
  obtain ⟨t, rfl⟩ := K.int (i := k) (v := v2) (.head _)
  obtain ⟨φ, m, q⟩ := id K
  have hq := q.temps (v1, .arg ds) (.tail _ (.head _))
  obtain ⟨l, o, vs, n, rfl, e, hc, hdat, r⟩ := hq.inv
  · obtain ⟨v, hv, rv⟩ := r.get hd
    refine wpAny_getItem_list ⟨_, q.sub _ _ e, hc, n, hdat⟩ h0 hf (x := v) (by simpa using hv) (hR _ s.heap s.toks ⟨φ, m, { q with temps := ?_ }⟩)
    intro p hp
    rcases List.mem_cons.mp hp with rfl | hp
    · exact rv
    · exact q.temps p (.tail _ (.tail _ hp))

theorem partIdx {v : Value} {k : Option Int} {Q : Option Int → Shared → Prop} {E : Value → Shared → Prop} {s : Shared} (p : IsPart v k) (h : Q k s) : wpAny (model prog w) A (Builtin.Slice.slicePartIndex v) Q E s := by
  cases p with
  | none => exact slicePart_none h
  | int i t => exact slicePart_int h

theorem P2.sliceT {ds : List D} {lo hi : Option Int} (hsz : ds.length ≤ sizeLine) (hsz' : (tpick ds lo hi).length ≤ sizeLine) (hwhole : (Builtin.Slice.sliceAdjust lo hi 1 ds.length).1 == 0 && Builtin.Slice.slicePlaces (Builtin.Slice.sliceAdjust lo hi 1 ds.length).1 (Builtin.Slice.sliceAdjust lo hi 1 ds.length).2 1 == ds.length → tpick ds lo hi = ds) :
    P2 prog w H A getItem (.tup ds) (.slice lo hi none) (.tup (tpick ds lo hi)) := fun a ρ O T v1 v2 => Tr.of fun s R K hR => by
  obtain ⟨φ, m, q⟩ := id K
  have hq := q.temps (v1, .tup ds) (.tail _ (.head _))
  have hq2 := q.temps (v2, .slice lo hi none) (.head _)
  obtain ⟨l, vs, n, rfl, e, r⟩ := hq.inv
  · obtain ⟨sl, u1, u2, u3, rfl, e2, p1, p2, p3⟩ := hq2.inv
    · have ht : IsTup s.heap l vs.toArray := ⟨_, q.sub _ _ e, rfl, n, rfl⟩
      have hos := q.sub _ _ e2
      have hlen := r.length
      have hTs : s.TypeIs (.ref sl) "slice" := ⟨_, hos, rfl⟩
      unfold getItem
      try with_reducible refine wpAny_holding ?_
      refine wpAny_bind (wpAny_sequenceKey ht.typeIs (by decide) ?_)
      refine wpAny_bind (wpAny_callSpecial?_slot (name := Str.ofString "__getitem__") ht.typeIs PySem.F.slot_tuple_getitem
        (wpAny_call_entry PySem.F.slot_tuple_getitem ht.typeIs PySem.F.entry_tuple_getitem ?_ (PySem.F.args_tuple_getitem_2 _ _)))
      show wpAny _ _ (Builtin.Tuple.tupleItemsOf (.ref l) >>= _) _ _ s
      refine wpAny_bind (tupleItemsOf_ ht ?_)
      refine wpAny_bind (wpAny_typeOf hTs ?_)
      rw [if_pos (by decide)]
      refine wpAny_bind ?_
      unfold Builtin.Slice.sliceApplied Builtin.Slice.sliceFields
      refine wpAny_bind (wpAny_bind (wpAny_field hos rfl (x := u1) rfl (wpAny_bind (wpAny_field hos rfl (x := u2) rfl (wpAny_bind (wpAny_field hos rfl (x := u3) rfl (wpAny_pure ?_)))))))
      refine wpAny_bind (partIdx p3 ?_)
      show wpAny _ _ (if ((1 : Int) == 0) = true then _ else _) _ _ s
      rw [if_neg (by decide)]
      refine wpAny_bind (partIdx p1 (wpAny_bind (partIdx p2 (wpAny_bind (wpAny_pure ?_)))))
      rw [List.size_toArray, hlen]
      generalize hadj : Builtin.Slice.sliceAdjust lo hi ((none : Option Int).getD 1) ds.length = ad
      have hadj' : Builtin.Slice.sliceAdjust lo hi 1 ds.length = ad := hadj
      obtain ⟨b, f⟩ := ad
      refine wpAny_pure ?_
      have e1 : (none : Option Int).getD 1 = 1 := rfl
      rw [e1]
      have hpick : tpick ds lo hi = (List.range (Builtin.Slice.slicePlaces b f 1)).filterMap fun (k : Nat) => ds[(b + (k : Int) * 1).toNat]? := by unfold tpick; rw [hadj']
      have hlst : ((List.range (Builtin.Slice.slicePlaces b f 1)).filterMap fun (k : Nat) => vs[(b + (k : Int) * 1).toNat]?).length = (tpick ds lo hi).length := by
        rw [hpick]; exact (RdAll.picked r (fun k => (b + (k : Int) * 1).toNat) _).length
      by_cases hw : (b == 0 && (1 : Int) == 1 && Builtin.Slice.slicePlaces b f 1 == ds.length) = true
      · show wpAny _ _ (if (b == 0 && (1 : Int) == 1 && Builtin.Slice.slicePlaces b f 1 == ds.length) = true then _ else _) _ _ s
        rw [if_pos hw]
        have hw' : tpick ds lo hi = ds := hwhole (by rw [hadj']; simpa using hw)
        unfold Builtin.Tuple.tupleIsExact
        refine wpAny_bind (wpAny_bind (wpAny_typeOf ht.typeIs ?_))
        refine wpAny_pure ?_
        rw [if_pos (by decide)]
        refine wpAny_bind (wpAny_rule ?_)
        refine wpAny_pure ⟨_, rfl, wpAny_pure (hR _ s.heap s.toks ?_)⟩
        rw [hw']
        exact K.tail
      · show wpAny _ _ (if (b == 0 && (1 : Int) == 1 && Builtin.Slice.slicePlaces b f 1 == ds.length) = true then _ else _) _ _ s
        rw [if_neg hw]
        have hso : sizeOk (.seq ((List.range (Builtin.Slice.slicePlaces b f 1)).filterMap fun (k : Nat) => vs.toArray[(b + (k : Int) * 1).toNat]?).toArray) := by
          show _ ≤ sizeLine
          rw [List.size_toArray]
          have : ((List.range (Builtin.Slice.slicePlaces b f 1)).filterMap fun (k : Nat) => vs.toArray[(b + (k : Int) * 1).toNat]?) = ((List.range (Builtin.Slice.slicePlaces b f 1)).filterMap fun (k : Nat) => vs[(b + (k : Int) * 1).toNat]?) := by
            congr 1; funext k; simp
          rw [this, hlst]; exact hsz'
        refine wpAny_bind (m := Builtin.Tuple.tupleExact _) (wpAny_newObj_type (wpAny_pure ⟨_, rfl, wpAny_pure (hR _ _ s.toks ?_)⟩) hso)
        have q' := q.alloc (h' := s.heap.push { cls := .type "tuple", data := .seq ((List.range (Builtin.Slice.slicePlaces b f 1)).filterMap fun (k : Nat) => vs.toArray[(b + (k : Int) * 1).toNat]?).toArray }) (Keep.push _ _) (fun c => if c = s.heap.objs.size then some { cls := .type "tuple", data := .seq ((List.range (Builtin.Slice.slicePlaces b f 1)).filterMap fun (k : Nat) => vs.toArray[(b + (k : Int) * 1).toNat]?).toArray } else none) (by intro c o' e; split at e <;> cases e; rename_i hb; subst hb; exact ⟨fresh_none _, Heap.get?_push_size _ rfl⟩)
        refine ⟨_, m, { q' with temps := ?_ }⟩
        intro p hp
        rcases List.mem_cons.mp hp with rfl | hp
        · have hpk := RdAll.picked (r.mono (ψ := fun c => match (if c = s.heap.objs.size then some ({ cls := .type "tuple", data := .seq ((List.range (Builtin.Slice.slicePlaces b f 1)).filterMap fun (k : Nat) => vs.toArray[(b + (k : Int) * 1).toNat]?).toArray } : Obj) else none) with | some o => some o | none => φ c) (by
            intro c o' e'
            by_cases hb : c = s.heap.objs.size
            · rw [hb, q.phi_free (fresh_none _)] at e'; cases e'
            · rw [if_neg hb]; exact e')) (fun k => (b + (k : Int) * 1).toNat) (List.range (Builtin.Slice.slicePlaces b f 1))
          rw [← hpick] at hpk
          refine .tup (n := 0) ?_ hpk
          rw [if_pos rfl]
          simp
        · exact q'.temps p (.tail _ (.tail _ hp))
end
end Mine

namespace Mine

/-! plain definitions: tables and words, over any keys -/
section
variable {K : Type} [DecidableEq K]
/-- a thing put by its key -/
noncomputable def put (kvs : List (K × Int)) (k : K) (i : Int) : List (K × Int) := if kvs.any (fun p => p.1 = k) then kvs.map (fun p => if p.1 = k then (p.1, i) else p) else kvs ++ [(k, i)]
theorem put_len (kvs : List (K × Int)) (k : K) (i : Int) : (put kvs k i).length ≤ kvs.length + 1 := by
  unfold put
  split
  · rw [List.length_map]; omega
  · rw [List.length_append]; simp
noncomputable def puts (kf : Nat → K) (vf : Nat → Int) (i : Nat) : List (K × Int) := (List.range i).foldl (fun acc j => put acc (kf j) (vf j)) []
theorem puts_succ (kf : Nat → K) (vf : Nat → Int) (i : Nat) : puts kf vf (i + 1) = put (puts kf vf i) (kf i) (vf i) := by
  unfold puts
  rw [List.range_succ, List.foldl_append]; rfl
theorem puts_len (kf : Nat → K) (vf : Nat → Int) : ∀ i, (puts kf vf i).length ≤ i
  | 0 => Nat.le_refl _
  | i + 1 => by rw [puts_succ]; exact Nat.le_trans (put_len ..) (Nat.succ_le_succ (puts_len kf vf i))
/-- add_callers -/
noncomputable def bump (acc : List (K × Int)) (p : K × Int) : List (K × Int) := match acc.find? (fun q => q.1 = p.1) with | some q => put acc p.1 (q.2 + p.2) | none => put acc p.1 p.2
noncomputable def add1 (t : List (K × Int)) (i : Nat) : List (K × Int) := (t.take i).foldl (fun acc p => put acc p.1 p.2) []
noncomputable def add2 (b s : List (K × Int)) (i : Nat) : List (K × Int) := (s.take i).foldl bump b
noncomputable def addC (t s : List (K × Int)) : List (K × Int) := add2 (add1 t t.length) s s.length
theorem add1_succ {t : List (K × Int)} {i : Nat} {p : K × Int} (h : t[i]? = some p) : add1 t (i + 1) = put (add1 t i) p.1 p.2 := by
  unfold add1
  rw [List.take_add_one, h, List.foldl_append]; rfl
theorem add2_succ {b t : List (K × Int)} {i : Nat} {p : K × Int} (h : t[i]? = some p) : add2 b t (i + 1) = bump (add2 b t i) p := by
  unfold add2
  rw [List.take_add_one, h, List.foldl_append]; rfl
theorem add1_len (t : List (K × Int)) : ∀ i, (add1 t i).length ≤ i
  | 0 => Nat.le_refl _
  | i + 1 => by
    cases h : t[i]? with
    | none =>
      have : add1 t (i + 1) = add1 t i := by
        have := List.getElem?_eq_none_iff.mp h
        unfold add1
        rw [List.take_of_length_le (by omega), List.take_of_length_le this]
      rw [this]; exact Nat.le_succ_of_le (add1_len t i)
    | some p => rw [add1_succ h]; exact Nat.le_trans (put_len ..) (Nat.succ_le_succ (add1_len t i))
theorem bump_len (b : List (K × Int)) (p : K × Int) : (bump b p).length ≤ b.length + 1 := by
  unfold bump
  split <;> exact put_len ..
theorem add2_len (b t : List (K × Int)) : ∀ i, (add2 b t i).length ≤ b.length + i
  | 0 => Nat.le_refl _
  | i + 1 => by
    cases h : t[i]? with
    | none =>
      have : add2 b t (i + 1) = add2 b t i := by
        have := List.getElem?_eq_none_iff.mp h
        unfold add2
        rw [List.take_of_length_le (by omega), List.take_of_length_le this]
      rw [this]; exact Nat.le_succ_of_le (add2_len b t i)
    | some p =>
      rw [add2_succ h]
      have := add2_len b t i
      exact Nat.le_trans (bump_len ..) (by omega)
theorem addC_len (t s : List (K × Int)) : (addC t s).length ≤ t.length + s.length := by
  have h1 := add1_len t t.length
  have h2 := add2_len (add1 t t.length) s s.length
  unfold addC
  omega
noncomputable def psum (kvs : List (K × Int)) (n : Nat) : Int := (kvs.take n).foldl (fun a p => a + p.2) 0
theorem psum_succ {kvs : List (K × Int)} {n : Nat} {p : K × Int} (h : kvs[n]? = some p) : psum kvs (n + 1) = psum kvs n + p.2 := by
  unfold psum
  rw [List.take_add_one, h, List.foldl_append]; rfl

/-- the points of a slice, without their first place -/
noncomputable def part (v : Int) (pts : List (List Int)) : List (List Int) := (pts.filter fun p => p.headD 0 == v).map List.tail
/-- the first places that there are, in order -/
noncomputable def heads (ns : List Int) : List Int := [-1, 0, 1].filter fun i => ns.any (· == i)
noncomputable def firsts (pts : List (List Int)) : List Int := heads (pts.map fun p => p.headD 0)
noncomputable def ones (ws : List K) : List (K × Int) := ws.foldl (fun acc k => put acc k 1) []
noncomputable def tabAt (wf : List (List Int) → List K) (pts : List (List Int)) (i : Nat) : List (K × Int) := ((firsts pts).take i).foldl (fun t v => addC t (ones (wf (part v pts)))) []
noncomputable def tab (wf : List (List Int) → List K) (pts : List (List Int)) : List (K × Int) := tabAt wf pts (firsts pts).length
noncomputable def words (nil : K) (ext : Nat → Nat → K → K) : Nat → List (List Int) → List K
  | 0, _ => [nil]
  | n + 1, pts => (tab (words nil ext n) pts).flatMap fun p => (List.range p.2.toNat).map fun t => ext n t p.1
theorem tabAt_succ {wf : List (List Int) → List K} {pts : List (List Int)} {i : Nat} {v : Int} (h : (firsts pts)[i]? = some v) : tabAt wf pts (i + 1) = addC (tabAt wf pts i) (ones (wf (part v pts))) := by
  unfold tabAt
  rw [List.take_add_one, h, List.foldl_append]; rfl

/-! what a table tells -/
noncomputable def keysT (t : List (K × Int)) : List K := t.map (·.1)
noncomputable def cnt (t : List (K × Int)) (k : K) : Int := ((t.find? (fun q => q.1 = k)).map (·.2)).getD 0
theorem any_iff {t : List (K × Int)} {k : K} : (t.any (fun p => p.1 = k)) = true ↔ k ∈ keysT t := by
  unfold keysT
  rw [List.any_eq_true, List.mem_map]
  simp
theorem cnt_nil (k : K) : cnt [] k = 0 := rfl
theorem cnt_not {t : List (K × Int)} {k : K} (h : k ∉ keysT t) : cnt t k = 0 := by
  unfold cnt
  rw [List.find?_eq_none.mpr]
  · rfl
  · intro x hx e
    simp only [decide_eq_true_eq] at e
    exact h (List.mem_map.mpr ⟨x, hx, e⟩)
theorem cnt_cons (p : K × Int) (t : List (K × Int)) (k : K) : cnt (p :: t) k = if p.1 = k then p.2 else cnt t k := by
  unfold cnt
  rw [List.find?_cons]
  by_cases h : p.1 = k
  · simp [h]
  · simp [h]
theorem cnt_append (t u : List (K × Int)) (k : K) : cnt (t ++ u) k = if k ∈ keysT t then cnt t k else cnt u k := by
  induction t with
  | nil => simp [keysT]
  | cons p t ih =>
    rw [List.cons_append, cnt_cons, cnt_cons, ih]
    have hm : k ∈ keysT (p :: t) ↔ k = p.1 ∨ k ∈ keysT t := List.mem_cons
    by_cases h : p.1 = k
    · rw [if_pos h, if_pos h, if_pos (hm.mpr (.inl h.symm))]
    · rw [if_neg h, if_neg h]
      by_cases hk : k ∈ keysT t
      · rw [if_pos hk, if_pos (hm.mpr (.inr hk))]
      · rw [if_neg hk, if_neg]
        intro e
        rcases hm.mp e with e | e
        · exact h e.symm
        · exact hk e
theorem cnt_mem {t : List (K × Int)} (hn : (keysT t).Nodup) {p : K × Int} (hp : p ∈ t) : cnt t p.1 = p.2 := by
  induction t with
  | nil => cases hp
  | cons q t ih =>
    unfold keysT at hn
    rw [List.map_cons] at hn
    have hn' := List.nodup_cons.mp hn
    rw [cnt_cons]
    rcases List.mem_cons.mp hp with rfl | hp
    · rw [if_pos rfl]
    · have hne : q.1 ≠ p.1 := fun e => hn'.1 (e ▸ List.mem_map_of_mem hp)
      rw [if_neg hne]
      exact ih hn'.2 hp
theorem keys_put (t : List (K × Int)) (k : K) (i : Int) : keysT (put t k i) = if k ∈ keysT t then keysT t else keysT t ++ [k] := by
  unfold put
  by_cases h : k ∈ keysT t
  · rw [if_pos (any_iff.mpr h), if_pos h]
    unfold keysT
    rw [List.map_map]
    apply List.map_congr_left
    intro p _
    show (if p.1 = k then (p.1, i) else p).1 = p.1
    split <;> rfl
  · rw [if_neg (fun e => h (any_iff.mp e)), if_neg h]
    unfold keysT
    rw [List.map_append]; rfl
theorem nodup_put {t : List (K × Int)} {k : K} {i : Int} (h : (keysT t).Nodup) : (keysT (put t k i)).Nodup := by
  rw [keys_put]
  split
  · exact h
  · rename_i hk
    exact List.nodup_append.mpr ⟨h, by simp, fun a ha b hb e => hk (by rw [List.mem_singleton] at hb; rw [← hb, ← e]; exact ha)⟩
theorem cnt_put (t : List (K × Int)) (k k' : K) (i : Int) : cnt (put t k i) k' = if k' = k then i else cnt t k' := by
  unfold put
  by_cases h : k ∈ keysT t
  · rw [if_pos (any_iff.mpr h)]
    induction t with
    | nil => simp [keysT] at h
    | cons p t ih =>
      rw [List.map_cons, cnt_cons, cnt_cons]
      by_cases hp : p.1 = k
      · rw [if_pos hp]
        by_cases hk : k' = k
        · subst hk; rw [if_pos hp, if_pos rfl]
        · rw [if_neg hk]
          have hne : ¬ p.1 = k' := fun e => hk (e.symm.trans hp)
          rw [if_neg hne, if_neg hne]
          by_cases ht : k ∈ keysT t
          · rw [ih ht, if_neg hk]
          · have : (t.map fun p => if p.1 = k then (p.1, i) else p) = t := by
              have hh : ∀ q ∈ t, (if q.1 = k then (q.1, i) else q) = q := fun q hq => if_neg fun (e : q.1 = k) => ht (by rw [← e]; exact List.mem_map_of_mem (f := (·.1)) hq)
              rw [List.map_congr_left hh, List.map_id']
            rw [this]
      · rw [if_neg hp]
        have ht : k ∈ keysT t := by
          unfold keysT at h ⊢
          rw [List.map_cons, List.mem_cons] at h
          exact h.resolve_left fun e => hp e.symm
        by_cases hk : p.1 = k'
        · rw [if_pos hk, if_pos hk, if_neg (fun e => hp (hk.trans e))]
        · rw [if_neg hk, if_neg hk, ih ht]
  · rw [if_neg (fun e => h (any_iff.mp e)), cnt_append, cnt_cons, cnt_nil]
    by_cases hk : k' = k
    · subst hk; rw [if_pos rfl, if_neg h, if_pos rfl]
    · rw [if_neg hk]
      by_cases hm : k' ∈ keysT t
      · rw [if_pos hm]
      · rw [if_neg hm, if_neg (fun e => hk e.symm), cnt_not hm]
theorem keys_bump (t : List (K × Int)) (p : K × Int) : keysT (bump t p) = if p.1 ∈ keysT t then keysT t else keysT t ++ [p.1] := by
  unfold bump
  split <;> exact keys_put ..
theorem nodup_bump {t : List (K × Int)} {p : K × Int} (h : (keysT t).Nodup) : (keysT (bump t p)).Nodup := by
  unfold bump
  split <;> exact nodup_put h
theorem cnt_bump (t : List (K × Int)) (p : K × Int) (k : K) : cnt (bump t p) k = cnt t k + if k = p.1 then p.2 else 0 := by
  have hc : cnt t p.1 = ((t.find? fun q => q.1 = p.1).map (·.2)).getD 0 := rfl
  unfold bump
  split
  · rename_i q hq
    rw [cnt_put]
    rw [hq] at hc
    by_cases h : k = p.1
    · subst h; rw [if_pos rfl, if_pos rfl, hc]; rfl
    · rw [if_neg h, if_neg h, Int.add_zero]
  · rename_i hq
    rw [cnt_put]
    rw [hq] at hc
    by_cases h : k = p.1
    · subst h; rw [if_pos rfl, if_pos rfl, hc]; simp
    · rw [if_neg h, if_neg h, Int.add_zero]

theorem put_new {t : List (K × Int)} {k : K} {i : Int} (h : k ∉ keysT t) : put t k i = t ++ [(k, i)] := by
  unfold put
  rw [if_neg (fun e => h (any_iff.mp e))]
theorem fold_put_new : ∀ (t b : List (K × Int)), (keysT (b ++ t)).Nodup → t.foldl (fun acc p => put acc p.1 p.2) b = b ++ t
  | [], b, _ => by simp
  | p :: t, b, h => by
    have h1 : p.1 ∉ keysT b := by
      unfold keysT at h ⊢
      rw [List.map_append, List.map_cons] at h
      intro hm
      exact (List.nodup_append.mp h).2.2 _ hm _ (.head _) rfl
    rw [List.foldl_cons, put_new h1, fold_put_new t _ (by rw [List.append_assoc]; exact h), List.append_assoc]; rfl
theorem add1_all {t : List (K × Int)} (h : (keysT t).Nodup) : add1 t t.length = t := by
  unfold add1
  rw [List.take_length, fold_put_new t [] (by simpa using h)]; rfl
theorem addC_fold {t s : List (K × Int)} (h : (keysT t).Nodup) : addC t s = s.foldl bump t := by
  unfold addC add2
  rw [add1_all h, List.take_length]
theorem ones_eq {ws : List K} (h : ws.Nodup) : ones ws = ws.map fun k => (k, 1) := by
  have : ∀ (ws : List K) (b : List (K × Int)), (keysT (b ++ ws.map fun k => (k, 1))).Nodup → ws.foldl (fun acc k => put acc k 1) b = b ++ ws.map fun k => (k, 1) := by
    intro ws
    induction ws with
    | nil => intro b _; simp
    | cons k ws ih =>
      intro b hb
      have h1 : k ∉ keysT b := by
        unfold keysT at hb ⊢
        rw [List.map_append, List.map_cons, List.map_cons] at hb
        intro hm
        exact (List.nodup_append.mp hb).2.2 _ hm _ (.head _) rfl
      rw [List.foldl_cons, put_new h1, ih _ (by rw [List.append_assoc]; exact hb), List.append_assoc]; rfl
  have := this ws [] (by unfold keysT; rw [List.nil_append, List.map_map]; simpa [Function.comp_def] using h)
  unfold ones
  simpa using this
theorem cnt_foldB : ∀ (s t : List (K × Int)) (k : K), (keysT s).Nodup → cnt (s.foldl bump t) k = cnt t k + cnt s k
  | [], t, k, _ => by simp [cnt_nil]
  | p :: s, t, k, h => by
    unfold keysT at h
    rw [List.map_cons] at h
    have h' := List.nodup_cons.mp h
    rw [List.foldl_cons, cnt_foldB s _ k h'.2, cnt_bump, cnt_cons]
    by_cases hk : k = p.1
    · subst hk
      rw [if_pos rfl, if_pos rfl, cnt_not h'.1]; omega
    · rw [if_neg hk, if_neg (fun e => hk e.symm)]; omega
theorem nodup_foldB : ∀ (s t : List (K × Int)), (keysT t).Nodup → (keysT (s.foldl bump t)).Nodup
  | [], _, h => h
  | p :: s, t, h => by rw [List.foldl_cons]; exact nodup_foldB s _ (nodup_bump h)
theorem keys_foldB : ∀ (s t : List (K × Int)) (k : K), k ∈ keysT (s.foldl bump t) ↔ k ∈ keysT t ∨ k ∈ keysT s
  | [], t, k => by simp [keysT]
  | p :: s, t, k => by
    rw [List.foldl_cons, keys_foldB s _ k, keys_bump]
    have e : keysT (p :: s) = p.1 :: keysT s := rfl
    rw [e, List.mem_cons]
    split
    · rename_i hm
      constructor
      · rintro (h | h)
        · exact .inl h
        · exact .inr (.inr h)
      · rintro (h | rfl | h)
        · exact .inl h
        · exact .inl hm
        · exact .inr h
    · rw [List.mem_append, List.mem_singleton]
      constructor
      · rintro ((h | h) | h)
        · exact .inl h
        · exact .inr (.inl h)
        · exact .inr (.inr h)
      · rintro (h | h | h)
        · exact .inl (.inl h)
        · exact .inl (.inr h)
        · exact .inr h
theorem cnt_ones {ws : List K} (h : ws.Nodup) (k : K) : cnt (ones ws) k = if k ∈ ws then 1 else 0 := by
  rw [ones_eq h]
  by_cases hk : k ∈ ws
  · rw [if_pos hk]
    have hn : (keysT (ws.map fun k => (k, (1 : Int)))).Nodup := by unfold keysT; rw [List.map_map]; simpa [Function.comp_def] using h
    exact cnt_mem hn (p := (k, 1)) (List.mem_map.mpr ⟨k, hk, rfl⟩)
  · rw [if_neg hk]
    refine cnt_not fun hm => hk ?_
    unfold keysT at hm
    rw [List.map_map] at hm
    simpa [Function.comp_def] using hm
theorem keys_ones {ws : List K} (h : ws.Nodup) : keysT (ones ws) = ws := by
  rw [ones_eq h]
  unfold keysT
  rw [List.map_map]
  simp [Function.comp_def]

/-- the table after i slices -/
structure TabOk (wf : List (List Int) → List K) (pts : List (List Int)) (i : Nat) : Prop where
  nodup : (keysT (tabAt wf pts i)).Nodup
  cnt : ∀ k, cnt (tabAt wf pts i) k = ((((firsts pts).take i).filter fun v => k ∈ wf (part v pts)).length : Int)
  keys : ∀ k, k ∈ keysT (tabAt wf pts i) ↔ ∃ v ∈ (firsts pts).take i, k ∈ wf (part v pts)
theorem tabOk {wf : List (List Int) → List K} {pts : List (List Int)} (hw : ∀ v ∈ firsts pts, (wf (part v pts)).Nodup) : ∀ i, i ≤ (firsts pts).length → TabOk wf pts i
  | 0, _ => ⟨by unfold tabAt keysT; simp, fun k => by unfold tabAt; simp [cnt_nil], fun k => by unfold tabAt keysT; simp⟩
  | i + 1, hi => by
    have ih := tabOk hw i (Nat.le_of_succ_le hi)
    have hv : (firsts pts)[i]? = some (firsts pts)[i] := List.getElem?_eq_getElem hi
    have hvm : (firsts pts)[i] ∈ firsts pts := List.getElem_mem _
    have hnd := hw _ hvm
    have e := tabAt_succ (wf := wf) hv
    rw [addC_fold ih.nodup] at e
    have hk1 : (keysT (ones (wf (part (firsts pts)[i] pts)))).Nodup := by rw [keys_ones hnd]; exact hnd
    refine ⟨by rw [e]; exact nodup_foldB _ _ ih.nodup, fun k => ?_, fun k => ?_⟩
    · rw [e, cnt_foldB _ _ _ hk1, ih.cnt, cnt_ones hnd, List.take_add_one, hv, List.filter_append, List.length_append]
      by_cases h : k ∈ wf (part (firsts pts)[i] pts)
      · simp [h]
      · simp [h]
    · rw [e, keys_foldB, keys_ones hnd, ih.keys, List.take_add_one, hv]
      simp only [Option.toList_some, List.mem_append, List.mem_singleton]
      constructor
      · rintro (⟨v, h1, h2⟩ | h)
        · exact ⟨v, .inl h1, h2⟩
        · exact ⟨_, .inr rfl, h⟩
      · rintro ⟨v, h1 | rfl, h2⟩
        · exact .inl ⟨v, h1, h2⟩
        · exact .inr h2
end
end Mine

namespace Mine

section
variable {K : Type} [DecidableEq K]
/-- what the words are made of -/
structure Ext (nil : K) (ext : Nat → Nat → K → K) (P : Nat → K → Prop) : Prop where
  nil : P 0 nil
  step : ∀ n t k, n < 3 → P n k → P (n + 1) (ext n t k)
  inj : ∀ n t t' k k', n < 3 → P n k → P n k' → ext n t k = ext n t' k' → t = t' ∧ k = k'

theorem heads_len (ns : List Int) : (heads ns).length ≤ 3 := by
  unfold heads
  exact List.length_filter_le _ _
theorem mem_heads {ns : List Int} {v : Int} : v ∈ heads ns ↔ (v = -1 ∨ v = 0 ∨ v = 1) ∧ v ∈ ns := by
  unfold heads
  rw [List.mem_filter, List.any_eq_true]
  simp
theorem nodup_heads (ns : List Int) : (heads ns).Nodup := List.Nodup.sublist List.filter_sublist (by decide)

theorem nodup_flatMap_of {α β : Type} {l : List α} {f : α → List β} (hl : l.Nodup) (hf : ∀ a ∈ l, (f a).Nodup) (hd : ∀ a ∈ l, ∀ b ∈ l, ∀ x, x ∈ f a → x ∈ f b → a = b) : (l.flatMap f).Nodup := by
  induction l with
  | nil => simp
  | cons a l ih =>
    have hl' := List.nodup_cons.mp hl
    rw [List.flatMap_cons, List.nodup_append]
    refine ⟨hf a (.head _), ih hl'.2 (fun b hb => hf b (.tail _ hb)) (fun b hb c hc => hd b (.tail _ hb) c (.tail _ hc)), ?_⟩
    intro x hx y hy e
    subst e
    obtain ⟨b, hb, hy⟩ := List.mem_flatMap.mp hy
    have := hd a (.head _) b (.tail _ hb) x hx hy
    exact hl'.1 (this ▸ hb)

structure WordsOk (P : Nat → K → Prop) (n : Nat) (ws : List K) : Prop where
  nodup : ws.Nodup
  all : ∀ w ∈ ws, P n w

variable {nil : K} {ext : Nat → Nat → K → K} {P : Nat → K → Prop}
theorem mem_words {n : Nat} {pts : List (List Int)} {w : K} (hw : ∀ v ∈ firsts pts, (words nil ext n (part v pts)).Nodup) :
    w ∈ words nil ext (n + 1) pts ↔ ∃ t k, w = ext n t k ∧ t < ((firsts pts).filter fun v => k ∈ words nil ext n (part v pts)).length := by
  have T := tabOk hw _ (Nat.le_refl (firsts pts).length)
  have hT : ∀ k, cnt (tab (words nil ext n) pts) k = _ := T.cnt
  have hN : (keysT (tab (words nil ext n) pts)).Nodup := T.nodup
  show w ∈ (tab (words nil ext n) pts).flatMap (fun p => (List.range p.2.toNat).map fun t => ext n t p.1) ↔ _
  rw [List.mem_flatMap]
  rw [List.take_length] at hT
  constructor
  · rintro ⟨p, hp, hw⟩
    obtain ⟨t, ht, rfl⟩ := List.mem_map.mp hw
    refine ⟨t, p.1, rfl, ?_⟩
    have h1 := cnt_mem hN hp
    rw [hT] at h1
    rw [← h1] at ht
    simpa using ht
  · rintro ⟨t, k, rfl, ht⟩
    have hk : k ∈ keysT (tab (words nil ext n) pts) := by
      rw [show tab (words nil ext n) pts = tabAt (words nil ext n) pts (firsts pts).length from rfl, T.keys, List.take_length]
      have : 0 < ((firsts pts).filter fun v => k ∈ words nil ext n (part v pts)).length := by omega
      obtain ⟨v, hv⟩ := List.exists_mem_of_length_pos this
      rw [List.mem_filter] at hv
      exact ⟨v, hv.1, by simpa using hv.2⟩
    obtain ⟨p, hp, rfl⟩ := List.mem_map.mp hk
    refine ⟨p, hp, List.mem_map.mpr ⟨t, ?_, rfl⟩⟩
    have h1 := cnt_mem hN hp
    rw [hT] at h1
    rw [← h1]
    simpa using ht
theorem wordsOk (X : Ext nil ext P) : ∀ n, n ≤ 3 → ∀ pts, WordsOk P n (words nil ext n pts)
  | 0, _, pts => ⟨by simp [words], fun w hw => by rw [List.mem_singleton.mp hw]; exact X.nil⟩
  | n + 1, hn, pts => by
    have ih := wordsOk X n (Nat.le_of_succ_le hn)
    have hw : ∀ v ∈ firsts pts, (words nil ext n (part v pts)).Nodup := fun v _ => (ih _).nodup
    have T := tabOk hw _ (Nat.le_refl (firsts pts).length)
    have hN : (keysT (tab (words nil ext n) pts)).Nodup := T.nodup
    have hP : ∀ k ∈ keysT (tab (words nil ext n) pts), P n k := fun k hk => by
      obtain ⟨v, _, h⟩ := (T.keys k).mp hk
      exact (ih _).all k h
    refine ⟨?_, ?_⟩
    · show ((tab (words nil ext n) pts).flatMap (fun p => (List.range p.2.toNat).map fun t => ext n t p.1)).Nodup
      refine nodup_flatMap_of ?_ ?_ ?_
      · exact (List.pairwise_map.mp hN).imp fun h e => h (by rw [e])
      · intro p hp
        have hp' := hP _ (List.mem_map_of_mem (f := (·.1)) hp)
        refine List.pairwise_map.mpr ((List.nodup_range (n := p.2.toNat)).imp fun h e => h ?_)
        exact (X.inj n _ _ _ _ hn hp' hp' e).1
      · intro p hp q hq x hx hy
        obtain ⟨t, _, rfl⟩ := List.mem_map.mp hx
        obtain ⟨t', _, e⟩ := List.mem_map.mp hy
        have := (X.inj n t' t _ _ hn (hP _ (List.mem_map_of_mem (f := (·.1)) hq)) (hP _ (List.mem_map_of_mem (f := (·.1)) hp)) e).2
        have h1 := cnt_mem hN hp
        have h2 := cnt_mem hN hq
        rw [this] at h2
        exact Prod.ext this.symm (h1.symm.trans h2)
    · intro w hw'
      obtain ⟨t, k, rfl, ht⟩ := (mem_words hw).mp hw'
      refine X.step n t k hn ?_
      have : 0 < ((firsts pts).filter fun v => k ∈ words nil ext n (part v pts)).length := by omega
      obtain ⟨v, hv⟩ := List.exists_mem_of_length_pos this
      rw [List.mem_filter] at hv
      exact (ih _).all k (by simpa using hv.2)

/-! bounds -/
theorem tabAt_len {wf : List (List Int) → List K} {pts : List (List Int)} {m : Nat} (hw : ∀ v, (wf (part v pts)).Nodup) (h : ∀ v, (wf (part v pts)).length ≤ m) : ∀ i, i ≤ (firsts pts).length → (tabAt wf pts i).length ≤ i * m
  | 0, _ => Nat.zero_le _
  | i + 1, hi => by
    rw [tabAt_succ (List.getElem?_eq_getElem hi)]
    have h1 := tabAt_len hw h i (Nat.le_of_succ_le hi)
    have h2 := addC_len (tabAt wf pts i) (ones (wf (part (firsts pts)[i] pts)))
    have h3 := h (firsts pts)[i]
    rw [ones_eq (hw _), List.length_map] at h2
    have e : (i + 1) * m = i * m + m := Nat.succ_mul i m
    rw [ones_eq (hw _)]
    omega
theorem tab_small {wf : List (List Int) → List K} {pts : List (List Int)} (hw : ∀ v, (wf (part v pts)).Nodup) {i : Nat} (hi : i ≤ (firsts pts).length) : ∀ p ∈ tabAt wf pts i, 1 ≤ p.2 ∧ p.2 ≤ 3 := by
  intro p hp
  have T := tabOk (pts := pts) (fun v _ => hw v) i hi
  have h1 := cnt_mem T.nodup hp
  rw [T.cnt] at h1
  obtain ⟨v, hv, hk⟩ := (T.keys p.1).mp (List.mem_map_of_mem (f := (·.1)) hp)
  have hpos : 0 < (((firsts pts).take i).filter fun v => p.1 ∈ wf (part v pts)).length := List.length_pos_of_mem (List.mem_filter.mpr ⟨hv, by simpa using hk⟩)
  have hle : (((firsts pts).take i).filter fun v => p.1 ∈ wf (part v pts)).length ≤ 3 := by
    refine Nat.le_trans (List.length_filter_le _ _) ?_
    rw [List.length_take]
    exact Nat.le_trans (Nat.min_le_right _ _) (heads_len _)
  omega
theorem sum_le {α : Type} {f : α → Nat} {c : Nat} : ∀ {l : List α}, (∀ a ∈ l, f a ≤ c) → (l.map f).sum ≤ l.length * c
  | [], _ => Nat.zero_le _
  | a :: l, h => by
    rw [List.map_cons, List.sum_cons, List.length_cons, Nat.succ_mul]
    have := sum_le (l := l) fun b hb => h b (.tail _ hb)
    have := h a (.head _)
    omega
theorem words_len (X : Ext nil ext P) : ∀ n, n ≤ 3 → ∀ pts, (words nil ext n pts).length ≤ 9 ^ n
  | 0, _, pts => Nat.le_refl _
  | n + 1, hn, pts => by
    have ih := words_len X n (Nat.le_of_succ_le hn)
    have hw : ∀ v, (words nil ext n (part v pts)).Nodup := fun v => (wordsOk X n (Nat.le_of_succ_le hn) _).nodup
    have h1 := tabAt_len hw (fun v => ih (part v pts)) _ (Nat.le_refl (firsts pts).length)
    have h2 := tab_small hw (Nat.le_refl (firsts pts).length)
    show ((tab (words nil ext n) pts).flatMap (fun p => (List.range p.2.toNat).map fun t => ext n t p.1)).length ≤ _
    rw [List.length_flatMap]
    have h3 := sum_le (f := fun p : K × Int => ((List.range p.2.toNat).map fun t => ext n t p.1).length) (c := 3) (l := tab (words nil ext n) pts) fun p hp => by
      rw [List.length_map, List.length_range]
      have := h2 p hp
      omega
    have h4 : (firsts pts).length ≤ 3 := heads_len _
    have h5 : (tab (words nil ext n) pts).length ≤ 3 * 9 ^ n := Nat.le_trans h1 (Nat.mul_le_mul_right _ h4)
    have h6 : 9 ^ (n + 1) = 9 ^ n * 9 := Nat.pow_succ ..
    omega
end
end Mine

namespace Mine

/-! words as strings -/
noncomputable def rep (x : Str) (n : Nat) : Str := ⟨(List.replicate n x.cps).foldl (· ++ ·) #[]⟩
noncomputable def one (c : Nat) : Str := ⟨#[c]⟩
noncomputable def extS (n t : Nat) (w : Str) : Str := rep (one (99 - n)) t ++ w
theorem fold_rep (c : Nat) : ∀ (n : Nat) (z : Array Nat), ((List.replicate n #[c]).foldl (· ++ ·) z).toList = z.toList ++ List.replicate n c
  | 0, z => by simp
  | n + 1, z => by
    rw [List.replicate_succ, List.foldl_cons, fold_rep c n, Array.toList_append, List.replicate_succ, List.append_assoc]; rfl
theorem rep_one (c n : Nat) : (rep (one c) n).cps.toList = List.replicate n c := by
  unfold rep one
  rw [fold_rep]; rfl
theorem cps_append (x y : Str) : (x ++ y).cps.toList = x.cps.toList ++ y.cps.toList := by
  show (x.cps ++ y.cps).toList = _
  rw [Array.toList_append]
theorem str_ext {x y : Str} (h : x.cps.toList = y.cps.toList) : x = y := by
  cases x; cases y
  exact congrArg Str.mk (Array.toList_inj.mp h)
theorem ext_cps (n t : Nat) (w : Str) : (extS n t w).cps.toList = List.replicate t (99 - n) ++ w.cps.toList := by
  unfold extS
  rw [cps_append, rep_one]
noncomputable def PS (n : Nat) (w : Str) : Prop := ∀ c ∈ w.cps.toList, 100 - n ≤ c ∧ c ≤ 99
theorem rep_split {c : Nat} : ∀ {t t' : Nat} {l l' : List Nat}, c ∉ l → c ∉ l' → List.replicate t c ++ l = List.replicate t' c ++ l' → t = t' ∧ l = l'
  | 0, 0, l, l', _, _, e => ⟨rfl, by simpa using e⟩
  | 0, t' + 1, l, l', h, _, e => by
    rw [List.replicate_succ, List.cons_append, List.replicate_zero, List.nil_append] at e
    exact absurd (e ▸ List.mem_cons_self ..) h
  | t + 1, 0, l, l', _, h, e => by
    rw [List.replicate_succ, List.cons_append, List.replicate_zero, List.nil_append] at e
    exact absurd (e ▸ List.mem_cons_self ..) h
  | t + 1, t' + 1, l, l', h, h', e => by
    rw [List.replicate_succ, List.replicate_succ, List.cons_append, List.cons_append, List.cons.injEq] at e
    have := rep_split h h' e.2
    exact ⟨by rw [this.1], this.2⟩
theorem extOkS : Ext (⟨#[]⟩ : Str) extS PS where
  nil := fun c hc => by simp at hc
  step := fun n t k hn h c hc => by
    have hc : c ∈ (extS n t k).cps.toList := hc
    rw [ext_cps, List.mem_append] at hc
    rcases hc with hc | hc
    · have := List.eq_of_mem_replicate hc
      omega
    · have := h c hc
      omega
  inj := fun n t t' k k' hn h h' e => by
    have e1 := congrArg (fun x : Str => x.cps.toList) e
    simp only [ext_cps] at e1
    have := rep_split (c := 99 - n) (fun hm => by have := h _ hm; omega) (fun hm => by have := h' _ hm; omega) e1
    exact ⟨this.1, str_ext this.2⟩

noncomputable abbrev wordsS : Nat → List (List Int) → List Str := words (⟨#[]⟩ : Str) extS
theorem wordsS_len : ∀ n, n ≤ 3 → ∀ pts, ∀ w ∈ wordsS n pts, w.length ≤ 3 * n
  | 0, _, pts, w, hw => by rw [List.mem_singleton.mp hw]; exact Nat.le_refl _
  | n + 1, hn, pts, w, hw => by
    have hN : ∀ v ∈ firsts pts, (wordsS n (part v pts)).Nodup := fun v _ => (wordsOk extOkS n (Nat.le_of_succ_le hn) _).nodup
    obtain ⟨t, k, rfl, ht⟩ := (mem_words hN).mp hw
    have h1 : 0 < ((firsts pts).filter fun v => k ∈ words (⟨#[]⟩ : Str) extS n (part v pts)).length := by omega
    obtain ⟨v, hv⟩ := List.exists_mem_of_length_pos h1
    rw [List.mem_filter] at hv
    have h2 := wordsS_len n (Nat.le_of_succ_le hn) _ k (by simpa using hv.2)
    have h3 : ((firsts pts).filter fun v => k ∈ words (⟨#[]⟩ : Str) extS n (part v pts)).length ≤ 3 := Nat.le_trans (List.length_filter_le _ _) (heads_len _)
    have h4 : (extS n t k).length = t + k.length := by
      have := congrArg List.length (ext_cps n t k)
      rw [List.length_append, List.length_replicate] at this
      exact this
    omega
theorem tabS_key {n : Nat} (hn : n ≤ 3) {pts : List (List Int)} {i : Nat} (hi : i ≤ (firsts pts).length) : ∀ p ∈ tabAt (wordsS n) pts i, p.1.length ≤ 3 * n := fun p hp => by
  have T := tabOk (wf := wordsS n) (pts := pts) (fun v _ => (wordsOk extOkS n hn _).nodup) i hi
  obtain ⟨v, _, h⟩ := (T.keys p.1).mp (List.mem_map_of_mem (f := (·.1)) hp)
  exact wordsS_len n hn _ _ h
end Mine

namespace Mine

section
variable {prog : Program} {w : World} {H : Heap} {A : Around} {a a' : Act} {ρ ρ' : Rho} {O O' O₁ Oe Ow Ow' Oz : List (Addr × OD)} {T T' Tn Tw : List (Value × D)} {φ φ' : FM} {m m' : Str → Option Value} {h h' : Heap} {mg mb : Str → Option Value}

theorem any_tv {k : Str} : ∀ {kv : List (Str × Value)} {kvs : List (Str × Int)}, kv.map tv = kvs.map (fun p => (p.1, some p.2)) → kv.any (fun p => p.1 = k) = kvs.any (fun p => p.1 = k)
  | [], [], _ => rfl
  | [], _ :: _, e => by simp at e
  | _ :: _, [], e => by simp at e
  | p :: kv, q :: kvs, e => by
    rw [List.map_cons, List.map_cons, List.cons.injEq] at e
    have h1 : p.1 = q.1 := congrArg Prod.fst e.1
    rw [List.any_cons, List.any_cons, any_tv e.2, h1]
theorem stored_tv {k : Str} {i : Int} {t : Tok} {kv : List (Str × Value)} {kvs : List (Str × Int)} (e : kv.map tv = kvs.map (fun p => (p.1, some p.2))) : (stored kv k (.int i t)).map tv = (put kvs k i).map fun p => (p.1, some p.2) := by
  unfold stored put
  rw [any_tv e]
  split
  · have : ∀ (kv : List (Str × Value)) (kvs : List (Str × Int)), kv.map tv = kvs.map (fun p => (p.1, some p.2)) → (kv.map fun p => if p.1 = k then (p.1, Value.int i t) else p).map tv = (kvs.map fun p => if p.1 = k then (p.1, i) else p).map fun p => (p.1, some p.2) := by
      intro kv
      induction kv with
      | nil => intro kvs e; cases kvs with | nil => rfl | cons _ _ => simp at e
      | cons p kv ih =>
        intro kvs e
        cases kvs with
        | nil => simp at e
        | cons q kvs =>
          rw [List.map_cons, List.map_cons, List.cons.injEq] at e
          have h1 : p.1 = q.1 := congrArg Prod.fst e.1
          simp only [List.map_cons]
          rw [ih kvs e.2]
          congr 1
          rw [h1]
          by_cases hq : q.1 = k
          · rw [if_pos hq, if_pos hq]; rfl
          · rw [if_neg hq, if_neg hq]; exact e.1
    exact this kv kvs e
  · rw [List.map_append, List.map_append, e]; rfl

/-- no new thing stands where the modules are -/
theorem St.bigger (W : Wo prog w H mg mb) (K : St prog w H a ρ O T h) : (h.objs.size == sysModules) = false := by
  obtain ⟨φ, m, q⟩ := K
  have h2 : ∃ o, (hd.heap_1 w.params).lookup 2 = some o := ⟨_, rfl⟩
  obtain ⟨o, ho⟩ := h2
  have := Heap.lt_size (q.base _ _ (q.wb _ _ (W.X _ _ ho)))
  have hs : sysModules = 1 := rfl
  have hne : h.objs.size ≠ sysModules := by rw [hs]; intro e; rw [e] at this; exact absurd this (by decide)
  simpa using hne

theorem own_dict {pos : Pos} (W : Wo prog w H mg mb) :
    Tr prog w A (eval (.Dict [] [] pos) a.env) (St prog w H a ρ O T) (fun v h => ∃ n, v = .ref n ∧ (n == sysModules) = false ∧ St prog w H a ρ ((n, .dict []) :: O) T h) :=
  Tr.of fun s R q h => wpAny_Dict_empty (h _ _ s.toks ⟨_, rfl, q.bigger W, q.mine (Keep.push _ _) (fresh_none _) (Heap.get?_push_size _ rfl) fun φ hT => by
    obtain ⟨o, ho, hd⟩ := Heap.dictOf_iff.mp (Heap.DictOf.new (knd := PySem.strKind prog w) s.heap)
    have e0 : (s.heap.push { cls := .type "dict", data := .dict #[] }).get? s.heap.objs.size = some { cls := .type "dict", data := .dict #[] } := Heap.get?_push_size _ rfl
    have e := e0.symm.trans ho
    rw [Option.some.inj e]
    exact ⟨[], hd, rfl⟩⟩)
theorem ex_assign_dict {x : Str} {px pos dp : Pos} (W : Wo prog w H mg mb) (hs : Storable a x) (hsw : swapsWith (.Dict [] [] dp) (some (.Name x px)) pos.line a.env = Pure.pure false := by rfl) :
    Tr prog w A (exec (.Assign [.Name x px] (.Dict [] [] dp) pos) a.env) (St prog w H a ρ O T) (Nx fun h => ∃ n, (n == sysModules) = false ∧ St prog w H a (upd ρ x (.own n)) ((n, .dict []) :: O) T h) :=
  Tr.of fun s R q h => wpAny_Assign_Name ((own_dict W).use q fun v h' tk q1 => by
    obtain ⟨n, rfl, hn, q1⟩ := q1
    exact storeB (b := .own n) q1 hs (fun φ hT => rfl) fun h'' tk' q2 => h _ h'' tk' ⟨rfl, n, hn, q2⟩) hsw

theorem key_str {k : Str} {t : Tok} : (PySem.strKind prog w).is k (.str k t) = true := by simp [PySem.strKind, Value.isStrOf]

theorem own_setD {n : Addr} {kvs : List (Str × Int)} {k : Str} {i : Int} {vk v : Value} (hsz : kvs.length ≤ sizeLine) :
    Tr prog w A (setItem (.ref n) vk v) (St prog w H a ρ ((n, .dict kvs) :: O) ((v, .int i) :: (vk, .str k) :: T)) (fun _ h => St prog w H a ρ ((n, .dict (put kvs k i)) :: O) T h) := Tr.of fun s R K hR => by
  obtain ⟨t, rfl⟩ := K.int (v := v) (i := i) (.head _)
  obtain ⟨u, rfl⟩ := K.str (v := vk) (x := k) (.tail _ (.head _))
  obtain ⟨φ, m, q⟩ := id K
  obtain ⟨o, ho, kv, hkv, htv⟩ := q.own _ (.head _)
  refine wpAny_setItem_pairs (knd := PySem.strKind prog w) (kvs := kv) (k := k) key_str (Heap.dictOf_iff.mpr ⟨o, ho, hkv⟩) (fun h' hd' hs' => ?_) (by rw [tv_len htv]; exact hsz)
  obtain ⟨o', ho', hkv'⟩ := Heap.dictOf_iff.mp hd'
  refine hR _ _ _ ((St.set (d' := .dict (put kvs k i)) K hs' ho' fun φ' hT hO => ⟨_, hkv', stored_tv htv⟩).sub fun p hp => .tail _ (.tail _ hp))
theorem own_inD {n : Addr} {kvs : List (Str × Int)} {k : Str} {vk : Value} (hn : (n == sysModules) = false) :
    Tr prog w A (compareOp .In vk (.ref n)) (St prog w H a ρ ((n, .dict kvs) :: O) ((vk, .str k) :: T)) (fun v h => v = .bool (kvs.any fun p => p.1 = k) ∧ St prog w H a ρ ((n, .dict kvs) :: O) T h) := Tr.of fun s R K hR => by
  obtain ⟨u, rfl⟩ := K.str (v := vk) (x := k) (.head _)
  obtain ⟨φ, m, q⟩ := id K
  obtain ⟨o, ho, kv, hkv, htv⟩ := q.own _ (.head _)
  refine wpAny_in_of (knd := PySem.strKind prog w) (k := k) key_str hn (Heap.dictOf_iff.mpr ⟨o, ho, hkv⟩).mapOf (hR _ s.heap _ ⟨?_, K.tail⟩)
  rw [valueAt_isSome_eq_any, any_tv htv]
theorem own_getD {n : Addr} {kvs : List (Str × Int)} {k : Str} {i : Int} {vk : Value} (hk : kvs.find? (fun p => p.1 = k) = some (k, i)) :
    Tr prog w A (getItem (.ref n) vk) (St prog w H a ρ ((n, .dict kvs) :: O) ((vk, .str k) :: T)) (fun v h => St prog w H a ρ ((n, .dict kvs) :: O) ((v, .int i) :: T) h) := Tr.of fun s R K hR => by
  obtain ⟨u, rfl⟩ := K.str (v := vk) (x := k) (.head _)
  obtain ⟨φ, m, q⟩ := id K
  obtain ⟨o, ho, kv, hkv, htv⟩ := q.own _ (.head _)
  have hval : ∃ u, valueAt kv k = some (.int i u) := by
    unfold valueAt
    have : ∀ (kv : List (Str × Value)) (kvs : List (Str × Int)), kv.map tv = kvs.map (fun p => (p.1, some p.2)) → kvs.find? (fun p => p.1 = k) = some (k, i) → ∃ u, (kv.find? fun p => p.1 = k).map (·.2) = some (.int i u) := by
      intro kv
      induction kv with
      | nil => intro kvs e h; cases kvs with | nil => cases h | cons _ _ => simp at e
      | cons p kv ih =>
        intro kvs e h
        cases kvs with
        | nil => simp at e
        | cons p' kvs =>
          rw [List.map_cons, List.map_cons, List.cons.injEq] at e
          obtain ⟨n, t, h1, h2⟩ := tv_get (kv := [p]) (kvs := [p']) (i := 0) (k := p.1) (v := p.2) (by rw [List.map_cons, List.map_cons, e.1]; rfl) rfl
          simp at h1
          subst h1
          rw [List.find?_cons] at h ⊢
          by_cases hp : p.1 = k
          · simp only [hp, decide_true] at h ⊢
            cases h
            exact ⟨t, by rw [Option.map_some, h2]⟩
          · simp only [hp, decide_false] at h ⊢
            exact ih kvs e.2 h
    exact this kv kvs htv hk
  obtain ⟨u, hu⟩ := hval
  exact wpAny_getItem_of (knd := PySem.strKind prog w) (k := k) key_str (Heap.dictOf_iff.mpr ⟨o, ho, hkv⟩).mapOf hu (hR _ s.heap _ K.tail.addInt)

/-- d[k] = e -/
theorem ex_setD {x : Str} {px sp pos : Pos} {ke e : Expr} {n : Addr} {kvs : List (Str × Int)} {k : Str} {i : Int} (hx : ρ x = some (.own n)) (y : Ev prog w H A a ρ ((n, .dict kvs) :: O) ke (.str k)) (z : Ev prog w H A a ρ ((n, .dict kvs) :: O) e (.int i)) (hsz : kvs.length ≤ sizeLine)
    (hd : (x == ("__debug__" : Str)) = false := by decide) (hn : (x == ("__classdict__" : Str)) = false := by decide) (hsw : swapsWith e (some (.Subscript (.Name x px) ke sp)) pos.line a.env = Pure.pure false := by rfl) :
    Tr prog w A (exec (.Assign [.Subscript (.Name x px) ke sp] e pos) a.env) (St prog w H a ρ ((n, .dict kvs) :: O) T) (Nx (St prog w H a ρ ((n, .dict (put kvs k i)) :: O) T)) :=
  Tr.of fun s R K hR => wpAny_Assign_Subscript ((z T).use K fun v h1 tk1 q1 => (ev_own hx hd hn).use (s := { s with heap := h1, toks := tk1 }) q1 fun ov h2 tk2 q2 => by
    obtain ⟨rfl, q2⟩ := q2
    exact (y _).use q2 fun vk h3 tk3 q3 => (own_setD hsz).use (q3.sub fun p hp => by
      simp only [List.mem_cons] at hp ⊢
      rcases hp with h | h | h
      · exact .inr (.inl h)
      · exact .inl h
      · exact .inr (.inr h)) fun _ h4 tk4 q4 => hR _ h4 tk4 ⟨rfl, q4⟩) hsw
/-- d[k] += e -/
theorem ex_addD {x y : Str} {px py sp pos : Pos} {e : Expr} {n : Addr} {kvs : List (Str × Int)} {k : Str} {i j : Int} (hx : ρ x = some (.own n)) (hy : ρ y = some (.val (.str k))) (hk : kvs.find? (fun p => p.1 = k) = some (k, j)) (z : Ev prog w H A a ρ ((n, .dict kvs) :: O) e (.int i)) (hsz : kvs.length ≤ sizeLine)
    (hd : (x == ("__debug__" : Str)) = false := by decide) (hn : (x == ("__classdict__" : Str)) = false := by decide) (hd' : (y == ("__debug__" : Str)) = false := by decide) (hn' : (y == ("__classdict__" : Str)) = false := by decide) :
    Tr prog w A (exec (.AugAssign (.Subscript (.Name x px) (.Name y py) sp) .Add e pos) a.env) (St prog w H a ρ ((n, .dict kvs) :: O) T) (Nx (St prog w H a ρ ((n, .dict (put kvs k (j + i))) :: O) T)) :=
  Tr.of fun s R K hR => wpAny_AugAssign_Subscript ((ev_own hx hd hn).use K fun ov h1 tk1 q1 => by
    obtain ⟨rfl, q1⟩ := q1
    refine (Ev.name hy hd' hn' T).use q1 fun vk h2 tk2 q2 => (own_getD (T := (vk, .str k) :: T) hk).use (q2.sub fun p hp => by
      simp only [List.mem_cons] at hp ⊢
      rcases hp with h | h | h
      · exact .inl h
      · exact .inl h
      · exact .inr h) fun old h3 tk3 q3 => (z _).use q3 fun v h4 tk4 q4 => ?_
    obtain ⟨t, rfl⟩ := q4.int (v := v) (i := i) (.head _)
    obtain ⟨u, rfl⟩ := q4.int (v := old) (i := j) (.tail _ (.head _))
    exact PyProof.Rows.iadd_int ((own_setD hsz).use (St.addInt q4 |>.sub fun p hp => by
      simp only [List.mem_cons] at hp ⊢
      rcases hp with h | h | h
      · exact .inl h
      · exact .inr (.inr (.inr (.inl h)))
      · exact .inr (.inr (.inr (.inr h)))) fun _ h5 tk5 q5 => hR _ h5 tk5 ⟨rfl, q5⟩))

/-- x += e -/
theorem ex_addN {x : Str} {px pos : Pos} {e : Expr} {i j : Int} (hx : ρ x = some (.val (.int j))) (z : Ev prog w H A a ρ O e (.int i)) (hs : Storable a x) (hn : (x == ("__classdict__" : Str)) = false := by decide) :
    Tr prog w A (exec (.AugAssign (.Name x px) .Add e pos) a.env) (St prog w H a ρ O T) (Nx (St prog w H a (upd ρ x (.val (.int (j + i)))) O T)) :=
  Tr.of fun s R K hR => wpAny_AugAssign_Name (loadB K hx hn fun old hold _ => (z _).use (hold _ rfl) fun v h4 tk4 q4 => by
    obtain ⟨t, rfl⟩ := q4.int (v := v) (i := i) (.head _)
    obtain ⟨u, rfl⟩ := q4.int (v := old) (i := j) (.tail _ (.head _))
    exact PyProof.Rows.iadd_int (storeB (b := .val (.int (j + i))) q4 hs (fun φ hT => .int _ _) fun h5 tk5 q5 => hR _ h5 tk5 ⟨rfl, q5.sub fun p hp => .tail _ (.tail _ hp)⟩))

/-- the own dict is given back -/
theorem ex_return_dict {x : Str} {px pos : Pos} {n : Addr} {kvs : List (Str × Int)} (hx : ρ x = some (.own n)) (hn : (n == sysModules) = false) (hd : (x == ("__debug__" : Str)) = false := by decide) (hc : (x == ("__classdict__" : Str)) = false := by decide) :
    Tr prog w A (exec (.Return (some (.Name x px)) pos) a.env) (St prog w H a ρ ((n, .dict kvs) :: O) T) (fun f h => ∃ v, f = .ret v ∧ St prog w H a ρ O ((v, .dict kvs) :: T) h) :=
  Tr.of fun s R q h => wpAny_Return_some ((ev_own hx hd hc).use q fun v h' tk q1 => h _ h' tk ⟨v, rfl, by
    obtain ⟨rfl, q1⟩ := q1
    exact q1.freezeD hn⟩)
theorem ex_return_list {x : Str} {px pos : Pos} {n : Addr} {ds : List D} (hx : ρ x = some (.own n)) (hd : (x == ("__debug__" : Str)) = false := by decide) (hc : (x == ("__classdict__" : Str)) = false := by decide) :
    Tr prog w A (exec (.Return (some (.Name x px)) pos) a.env) (St prog w H a ρ ((n, .list ds) :: O) T) (fun f h => ∃ v, f = .ret v ∧ St prog w H a ρ O ((v, .list ds) :: T) h) :=
  Tr.of fun s R q h => wpAny_Return_some ((ev_own hx hd hc).use q fun v h' tk q1 => h _ h' tk ⟨v, rfl, by
    obtain ⟨rfl, q1⟩ := q1
    exact q1.freeze⟩)

/-- k in d -/
theorem Tt.inD {x : Str} {px pos : Pos} {ke : Expr} {n : Addr} {kvs : List (Str × Int)} {k : Str} (hx : ρ x = some (.own n)) (hn : (n == sysModules) = false) (y : Ev prog w H A a ρ ((n, .dict kvs) :: O) ke (.str k)) (hd : (x == ("__debug__" : Str)) = false := by decide) (hc : (x == ("__classdict__" : Str)) = false := by decide)
    (hm : behindInMarks .In (.Name x px) = false := by with_unfolding_all rfl) : Tt prog w H A a ρ ((n, .dict kvs) :: O) (.Compare ke [.In] [.Name x px] pos) (kvs.any fun p => p.1 = k) :=
  fun T => Tr.of fun s R q h => wpAny_isTrue_Compare1 ((y T).use q fun v1 _ _ q1 => (ev_own hx hd hc).use q1 fun v2 _ _ q2 => by
    obtain ⟨rfl, q2⟩ := q2
    exact (own_inD hn).use q2 fun v h' tk q3 => by
      obtain ⟨rfl, q3⟩ := q3
      exact wpAny_truthy_bool (h _ h' tk ⟨rfl, q3⟩)) hm

/-! methods of a dict -/
theorem Ev.items {pl : Sem Bool} {o : Expr} {apos pos : Pos} {kvs : List (Str × Int)} (x : Ev prog w H A a ρ O o (.dict kvs)) (he : eval (.Call (.Attribute o "items" apos) [] [] pos) a.env = (do let ov ← eval o a.env; standAt apos.atName; let (f, first) ← holding [ov] (getMethod ov "items" pl); callWith pos f first (backTo pos (starEach [] a.env)) []) := by rfl) : Ev prog w H A a ρ O (.Call (.Attribute o "items" apos) [] [] pos) (.items kvs) :=
  fun T => Tr.of fun s R K hR => by
    refine MethodCall_ ((x T).use K fun v h1 tk1 q1 => ?_) he
    obtain ⟨d, kv, rfl, hS, hD, htv⟩ := q1.dict (.head _)
    refine getMethod_builtin (s := { s with heap := h1, toks := tk1 }) hD.typeIs PySem.F.plainAttrs_dict PySem.F.slot_dict_items PySem.F.type_dict_items hD.mapOf.noDict (callWith_method0 ?_)
    refine call_meetsIn PySem.F.slot_dict_items hD.typeIs PySem.F.entry_dict_items (PySem.F.args_dict_items_1 _) (meets_dict_items (PySem.strKind prog w) d hS) ⟨⟨kv, hD⟩, hR _ _ tk1 ?_⟩
    obtain ⟨φ, m, q⟩ := q1
    have hq := q.temps _ (.head _)
    obtain ⟨_, _, e0, e, h2, h3⟩ := hq.inv
    cases e0
    · exact (St.alloc ⟨φ, m, { q with temps := fun p hp => q.temps p hp }⟩ (Keep.push _ _) (fresh_none _) (Heap.get?_push_size _ rfl) (d := .items kvs) fun φ' hT hφ => by
        have := hT _ (.head _)
        obtain ⟨_, _, e0, e', h2', h3'⟩ := this.inv
        cases e0
        exact .items hφ rfl rfl e' h2').tail2
theorem Ev.values {pl : Sem Bool} {o : Expr} {apos pos : Pos} {kvs : List (Str × Int)} (x : Ev prog w H A a ρ O o (.dict kvs)) (he : eval (.Call (.Attribute o "values" apos) [] [] pos) a.env = (do let ov ← eval o a.env; standAt apos.atName; let (f, first) ← holding [ov] (getMethod ov "values" pl); callWith pos f first (backTo pos (starEach [] a.env)) []) := by rfl) : Ev prog w H A a ρ O (.Call (.Attribute o "values" apos) [] [] pos) (.vals kvs) :=
  fun T => Tr.of fun s R K hR => by
    refine MethodCall_ ((x T).use K fun v h1 tk1 q1 => ?_) he
    obtain ⟨d, kv, rfl, hS, hD, htv⟩ := q1.dict (.head _)
    refine getMethod_builtin (s := { s with heap := h1, toks := tk1 }) hD.typeIs PySem.F.plainAttrs_dict PySem.F.slot_dict_values PySem.F.type_dict_values hD.mapOf.noDict (callWith_method0 ?_)
    refine call_meetsIn PySem.F.slot_dict_values hD.typeIs PySem.F.entry_dict_values (PySem.F.args_dict_values_1 _) (meets_dict_values (PySem.strKind prog w) d hS) ⟨⟨kv, hD⟩, hR _ _ tk1 ?_⟩
    exact (q1.alloc (Keep.push _ _) (fresh_none _) (Heap.get?_push_size _ rfl) (d := .vals kvs) fun φ' hT hφ => by
        have := hT _ (.head _)
        obtain ⟨_, _, e0, e', h2', h3'⟩ := this.inv
        cases e0
        exact .vals hφ rfl rfl e' h2').tail2

theorem PL.isinst {i : Int} {v : Value} (a : Act) (ρ : Rho) (O : List (Addr × OD)) (T : List (Value × D)) : Tr prog w A (call (.builtin "isinstance") [v, .type "tuple"]) (St prog w H a ρ O ((v, .int i) :: T)) (fun r h => r = .bool false ∧ St prog w H a ρ O T h) := Tr.of fun s R K hR => by
  obtain ⟨t, rfl⟩ := K.int (v := v) (i := i) (.head _)
  exact call_isinstance (isinstance_false_int (by decide +kernel) PySem.F.isi_meta_tuple PySem.F.sub_int_tuple) (hR _ s.heap _ ⟨rfl, K.tail⟩)
theorem Tt.ofEv {e : Expr} {b : Bool} (x : Ev prog w H A a ρ O e (.bool b)) (he : ∀ whole, isTrue e a.env whole = (do let v ← whole; standAt e.pos; holding [v] (truthy v)) := by intro _; rfl) : Tt prog w H A a ρ O e b :=
  fun T => Tr.of fun s R K hR => wpAny_isTrue_value ((x T).use K fun v h tk q => by
    have := q.bool (.head _)
    subst this
    exact wpAny_truthy_bool (hR _ h tk ⟨rfl, q.tail⟩)) (he _)
theorem Ev.isinst {np tp pos : Pos} {e : Expr} {i : Int} (W : Wo prog w H mg mb) (hx : a.env.kindOf "isinstance" = some .globalImplicit) (he : nsIn (hd.heap_1 w.params) mainGlobals "isinstance" = some none)
    (hx' : a.env.kindOf "tuple" = some .globalImplicit) (he' : nsIn (hd.heap_1 w.params) mainGlobals "tuple" = some none) (x : Ev prog w H A a ρ O e (.int i))
    (hs : starEach [e, .Name "tuple" tp] a.env = (false, eval e a.env) :: starEach [.Name "tuple" tp] a.env := by rfl) (hp : (backTo pos (starEach [.Name "tuple" tp] a.env)).any (·.1) = false := by rfl) :
    Ev prog w H A a ρ O (.Call (.Name "isinstance" np) [e, .Name "tuple" tp] [] pos) (.bool false) :=
  fun T => Tr.of fun s R K hR => by
    refine Call_Name rfl (nameB W K he rfl (by decide) hx ?_)
    refine PyProof.Rows.callWith_builtin1 (wpAny_items_cons ((x T).use K fun v h' tk q => wpAny_items_cons (nameB (s := { s with heap := h', toks := tk }) W q he' rfl (by decide) hx' (wpAny_items_nil ?_)) (by rfl)) hs) hs hp
    exact (PL.isinst a ρ O T).use (s := { s with heap := h', toks := tk }) q fun r h2 tk2 q2 => by
      obtain ⟨rfl, q2⟩ := q2
      exact hR _ _ _ q2.addBool
end
end Mine

namespace Mine

section
variable {prog : Program} {w : World} {H : Heap} {A : Around} {a a' : Act} {ρ ρ' : Rho} {O O' O₁ Oe Ow Ow' Oz : List (Addr × OD)} {T T' Tn Tw : List (Value × D)} {φ φ' : FM} {m m' : Str → Option Value} {h h' : Heap} {mg mb : Str → Option Value}

theorem Ev.neg {e : Expr} {i : Int} {pos : Pos} (x : Ev prog w H A a ρ O e (.int i)) : Ev prog w H A a ρ O (.UnaryOp .USub e pos) (.int (-i)) :=
  fun T => Tr.of fun s R K hR => wpAny_UnaryOp ((x T).use K fun v h' tk q => by
    obtain ⟨t, rfl⟩ := q.int (v := v) (i := i) (.head _)
    exact PyProof.Rows.neg_int (hR _ h' _ q.tail.addInt))
theorem Ev.dict0 {pos : Pos} (W : Wo prog w H mg mb) : Ev prog w H A a ρ O (.Dict [] [] pos) (.dict []) :=
  fun T => Tr.of fun s R K hR => (own_dict W).use K fun v h' tk q => by
    obtain ⟨n, rfl, hn, q⟩ := q
    exact hR _ h' tk (q.freezeD hn)

/-- x.append(e), x an own list -/
theorem ex_append {pl : Sem Bool} {x : Str} {px ap cp pos : Pos} {e : Expr} {n : Addr} {ds : List D} {d : D} (hx : ρ x = some (.own n)) (y : Ev prog w H A a ρ ((n, .list ds) :: O) e d) (hsz : ds.length ≤ sizeLine) (hint : interactive a.env = false := by rfl)
    (hd : (x == ("__debug__" : Str)) = false := by decide) (hc : (x == ("__classdict__" : Str)) = false := by decide) (hs : starEach [e] a.env = (false, eval e a.env) :: starEach [] a.env := by rfl)
    (he : eval (.Call (.Attribute (.Name x px) "append" ap) [e] [] cp) a.env = (do let ov ← eval (.Name x px) a.env; standAt ap.atName; let (f, first) ← holding [ov] (getMethod ov "append" pl); callWith cp f first (backTo cp (starEach [e] a.env)) []) := by rfl) :
    Tr prog w A (exec (.Expr (.Call (.Attribute (.Name x px) "append" ap) [e] [] cp) pos) a.env) (St prog w H a ρ ((n, .list ds) :: O) T) (Nx (St prog w H a ρ ((n, .list (ds ++ [d])) :: O) T)) :=
  Tr.of fun s R K hR => by
    refine wpAny_Expr (MethodCall_ ((ev_own hx hd hc).use K fun ov h1 tk1 q1 => ?_) he) hint
    obtain ⟨rfl, q1⟩ := q1
    obtain ⟨φ, m, q⟩ := id q1
    obtain ⟨o, ho, vs, k, rfl, hr⟩ := q.own _ (.head _)
    refine getMethod_list_append (s := { s with heap := h1, toks := tk1 }) ho rfl rfl (callWith_method1 (((EvL.cons y EvL.nil hs) cp T).use q1 fun vs2 h2 tk2 q2 => ?_) hs (by rfl))
    obtain ⟨hl, q2⟩ := q2
    obtain ⟨v, rfl⟩ := len1 hl
    · refine (own_append hsz).use (s := { s with heap := h2, toks := tk2 }) q2 fun r h3 tk3 q3 => ?_
      obtain ⟨rfl, q3⟩ := q3
      exact hR _ _ _ ⟨rfl, q3⟩

/-- x[-1], x an own list -/
theorem Ev.lastOwn {x : Str} {px pos : Pos} {i : Expr} {n : Addr} {ds : List D} {d : D} (hx : ρ x = some (.own n)) (hi : Ev prog w H A a ρ ((n, .list ds) :: O) i (.int (-1))) (hd : ds[ds.length - 1]? = some d) (hn : (x == ("__debug__" : Str)) = false := by decide) (hc : (x == ("__classdict__" : Str)) = false := by decide)
    (hs : ∀ o j, ∃ ops, subscripted i false o j = operate ops (getItem o j) := by intro o j; exact ⟨_, rfl⟩) :
    Ev prog w H A a ρ ((n, .list ds) :: O) (.Subscript (.Name x px) i pos) d :=
  fun T => Tr.of fun s R K hR => Subscript_ ((ev_own hx hn hc).use K fun ov h1 tk1 q1 => by
    obtain ⟨rfl, q1⟩ := q1
    refine (hi T).use (s := { s with heap := h1, toks := tk1 }) q1 fun iv h2 tk2 q2 => ?_
    obtain ⟨ops, ho⟩ := hs (.ref n) iv
    have hT : ({ s with heap := h2, toks := tk2 } : Shared).TypeIs (.ref n) "list" := by
      obtain ⟨φ, m, q⟩ := id q2
      obtain ⟨o, ho, vs, k, rfl, r⟩ := q.own _ (.head _)
      exact ⟨_, ho, rfl⟩
    exact tail_any hT slot_list_getitem.lookup ((itemLast_own hd).use (s := { s with heap := h2, toks := tk2 }) q2 fun v h3 tk3 q3 => hR _ _ _ q3) ho)

theorem P2.mulS {x : Str} {n : Int} (h0 : 0 ≤ n) (h1 : n ≤ 1000) (hx : x.length ≤ 1000) : P2 prog w H A (binaryOp .Mult) (.str x) (.int n) (.str ⟨(List.replicate n.toNat x.cps).foldl (· ++ ·) #[]⟩) := fun a ρ O T v1 v2 => Tr.of fun s R K hR => by
  obtain ⟨t, rfl⟩ := K.str (x := x) (v := v1) (.tail _ (.head _))
  obtain ⟨u, rfl⟩ := K.int (i := n) (v := v2) (.head _)
  have K' := K.sub (T' := T) fun p hp => .tail _ (.tail _ hp)
  have hsl : sizeLine = 16777216 := rfl
  have hlen : ∀ (c : Array Nat) (k : Nat) (z : Array Nat), ((List.replicate k c).foldl (· ++ ·) z).size = z.size + k * c.size := by
    intro c k
    induction k with
    | zero => intro z; simp
    | succ k ih => intro z; rw [List.replicate_succ, List.foldl_cons, ih, Array.size_append, Nat.add_mul]; omega
  have hone : n = 1 → (⟨(List.replicate n.toNat x.cps).foldl (· ++ ·) #[]⟩ : Str) = x := by
    rintro rfl
    show (⟨#[] ++ x.cps⟩ : Str) = x
    rw [Array.empty_append]
  have hxl : x.length = x.cps.size := rfl
  have hmul : x.length * n.toNat ≤ 1000 * 1000 := Nat.mul_le_mul hx (by omega)
  refine PySem.P.mul_str (by simp; omega) (fun _ _ => ?_) (fun _ _ => ?_) ?_
  · have : (1000 : Int) ≤ (2 ^ 63 - 1) / n := by
      rcases Int.lt_or_eq_of_le h0 with hp | hp
      · rw [Int.le_ediv_iff_mul_le hp]; omega
      · subst hp; omega
    omega
  · unfold Builtin.Str.tooLong
    simp
    omega
  · by_cases hn : n < 1
    · have hn0 : n = 0 := by omega
      subst hn0
      rw [if_pos hn]
      exact ⟨by decide, hR _ s.heap _ K'.addStr⟩
    · rw [if_neg hn]
      by_cases hc : (n == 1 || x.length == 0) = true
      · rw [if_pos hc]
        have he : (⟨(List.replicate n.toNat x.cps).foldl (· ++ ·) #[]⟩ : Str) = x := by
          simp only [Bool.or_eq_true, beq_iff_eq] at hc
          rcases hc with hc | hc
          · exact hone hc
          · have h0 := hlen x.cps n.toNat #[]
            rw [← hxl, hc] at h0
            have h1 : ((List.replicate n.toNat x.cps).foldl (· ++ ·) #[]) = #[] := Array.eq_empty_of_size_eq_zero (by simpa using h0)
            rw [h1]
            have h2 : x.cps = #[] := Array.eq_empty_of_size_eq_zero hc
            rw [← h2]
        rw [he] at hR
        exact hR _ s.heap _ (K.sub fun p hp => by
          rcases List.mem_cons.mp hp with rfl | hp
          · exact .tail _ (.head _)
          · exact .tail _ (.tail _ hp))
      · rw [if_neg hc]
        refine ⟨?_, hR _ s.heap _ K'.addStr⟩
        show ((List.replicate n.toNat x.cps).foldl (· ++ ·) #[]).size ≤ _
        rw [hlen, hsl, ← hxl, Nat.mul_comm]
        simp
        omega

/-! a comprehension with two clauses -/
structure CompOf2 (prog : Program) (w : World) (H : Heap) (A : Around) (a : Act) (ρ : Rho) (scope : Scope) (t0 t1 it1 elt : Expr) (es : List D) (es1 : Nat → List D) (f : Nat → Nat → D) : Prop where
  parts : ∀ i d, es[i]? = some d → ∃ ρb : Rho, (∀ x b, capRho a scope ρ x = some b → ρb x = some b) ∧ (∀ C Φ h₀, Asg prog w H A (cact a scope C Φ h₀) t0 d (capRho a scope ρ) ρb ∧ ∀ O, EvIt prog w H A (cact a scope C Φ h₀) ρb O O [] t1 it1 (es1 i)) ∧
    ∀ j d1, (es1 i)[j]? = some d1 → ∃ ρc : Rho, (∀ x b, ρb x = some b → ρc x = some b) ∧ ∀ C Φ h₀, Asg prog w H A (cact a scope C Φ h₀) t1 d1 ρb ρc ∧ ∀ O, Ev prog w H A (cact a scope C Φ h₀) ρc O elt (f i j)

noncomputable def row (es1 : Nat → List D) (f : Nat → Nat → D) (i : Nat) : List D := (List.range (es1 i).length).map (f i)
noncomputable def rows (es1 : Nat → List D) (f : Nat → Nat → D) (i : Nat) : List D := (List.range i).flatMap (row es1 f)
theorem rows_succ (es1 : Nat → List D) (f : Nat → Nat → D) (i : Nat) : rows es1 f (i + 1) = rows es1 f i ++ row es1 f i := by
  unfold rows
  rw [List.range_succ, List.flatMap_append]; simp
theorem rows_len {es1 : Nat → List D} {f : Nat → Nat → D} {i n : Nat} (h : i ≤ n) : (rows es1 f i).length ≤ (rows es1 f n).length := by
  induction n with
  | zero => rw [Nat.le_zero.mp h]; exact Nat.le_refl _
  | succ n ih =>
    rcases Nat.lt_or_eq_of_le h with h | rfl
    · rw [rows_succ, List.length_append]; have := ih (Nat.le_of_lt_succ h); omega
    · exact Nat.le_refl _

noncomputable def emit2 (e g1it : Expr) (acc : Value) (env : Env) : Sem Unit := do
  let x ← eval g1it env
  standAt g1it.pos
  let x ← foldedSetIterable g1it env x
  let _ ← runOwn (.compStart e (0 + 1) (← holding [x] (pyIter x)) acc env) env

theorem compTurn_two (elt t0 it0 t1 it1 : Expr) (scope : Scope) (pos : Pos) (it acc : Value) (env : Env) :
    compTurn (.ListComp elt [⟨t0, it0, [], 0⟩, ⟨t1, it1, [], 0⟩] scope pos) 0 it acc env = turnT it0.pos t0 [] (emit2 (.ListComp elt [⟨t0, it0, [], 0⟩, ⟨t1, it1, [], 0⟩] scope pos) it1 acc env) (.compLoop (.ListComp elt [⟨t0, it0, [], 0⟩, ⟨t1, it1, [], 0⟩] scope pos) 0 it acc env) it env := by
  unfold turnT emit2 testsT
  simp only [bind_assoc, pure_bind]
  rfl

theorem inner_two {elt t0 it0 t1 it1 : Expr} {scope : Scope} {pos : Pos} {es1 : List D} {f : Nat → D} {ds0 : List D} {Dd : Addr} {ρb : Rho}
    (hs : ∀ x, foldedSetIterable it1 a.env x = pure x)
    (it : EvIt prog w H A a ρb ((Dd, .list ds0) :: Oz) ((Dd, .list ds0) :: Oz) [] t1 it1 es1)
    (parts : ∀ j d1, es1[j]? = some d1 → ∃ ρc : Rho, (∀ x b, ρb x = some b → ρc x = some b) ∧ Asg prog w H A a t1 d1 ρb ρc ∧ ∀ O, Ev prog w H A a ρc O elt (f j)) (hsz : ds0.length + es1.length ≤ sizeLine) :
    Tr prog w A (emit2 (.ListComp elt [⟨t0, it0, [], 0⟩, ⟨t1, it1, [], 0⟩] scope pos) it1 (.ref Dd) a.env) (St prog w H a ρb ((Dd, .list ds0) :: Oz) T) (fun _ => St prog w H a ρb ((Dd, .list (ds0 ++ (List.range es1.length).map f)) :: Oz) T) :=
  Tr.of fun s R K hR => by
    unfold emit2
    refine wpAny_bind (wpAny_mono (it T s K) (fun x s₁ hx => ?_) fun _ _ e => e.elim)
    obtain ⟨⟨h₁, tk₁, rfl⟩, hx⟩ := hx
    refine wpAny_bind (wpAny_standAt ?_)
    rw [hs]
    refine wpAny_bind (wpAny_pure (wpAny_bind (wpAny_holding (wpAny_mono hx (fun itv s₂ h₂ => ?_) fun _ _ e => e.elim))))
    obtain ⟨h₂, tk₂, rfl, I, X, Ow, Tw, rfl, S, hX, K₂⟩ := h₂
    refine wpAny_bind (wpAny_runOwn ?_)
    have hA : A.mark none = A := rfl
    rw [hA]
    have hρ : ∀ j, ∃ ρc : Rho, (∀ x b, ρb x = some b → ρc x = some b) ∧ ∀ d1, es1[j]? = some d1 → Asg prog w H A a t1 d1 ρb ρc ∧ ∀ O, Ev prog w H A a ρc O elt (f j) := fun j => by
      cases hd : es1[j]? with
      | none => exact ⟨ρb, fun _ _ e => e, fun d e => nomatch e⟩
      | some d =>
        obtain ⟨ρc, h1, h2⟩ := parts j d hd
        exact ⟨ρc, h1, fun d' e => by cases e; exact h2⟩
    let ρc : Nat → Rho := fun j => (hρ j).choose
    have hρc : ∀ j, (∀ x b, ρb x = some b → ρc j x = some b) ∧ ∀ d1, es1[j]? = some d1 → Asg prog w H A a t1 d1 ρb (ρc j) ∧ ∀ O, Ev prog w H A a (ρc j) O elt (f j) := fun j => (hρ j).choose_spec
    have K₂' : St prog w H a ρb (Ow ++ ([(Dd, OD.list (ds0 ++ (List.range 0).map f))] ++ Oz)) (Tw ++ T) h₂ := by
      rw [List.range_zero, List.map_nil, List.append_nil]; exact K₂
    refine comp_start (g := ⟨t1, it1, [], 0⟩) rfl rfl rfl rfl rfl ?_ (S.self _ _ _ _ 0 Ow Tw _ hX K₂')
    refine comp_loop (ipos := it1.pos) (ifs := []) (target := t1) (emit := (do let _ ← call (.builtin "list.append") [.ref Dd, ← eval elt a.env])) ρb ρc (fun j => [(Dd, OD.list (ds0 ++ (List.range j).map f))]) (fun _ => true) rfl rfl rfl ?_ S
      (fun j d hd => ((hρc j).2 d hd).1) (fun j => (hρc j).1) (fun j d hd O T => tests_nil) ?_ (fun _ _ _ h => nomatch h) _ hX K₂' ?_
    · rfl
    · intro j d hd _ Oz T
      refine Tr.of fun s R q hR => ?_
      refine wpAny_bind ((((hρc j).2 d hd).2 _ T).use q fun v h' tk q1 => wpAny_bind ?_)
      have hlt : j < es1.length := (List.getElem?_eq_some_iff.mp hd).1
      refine (own_append (n := Dd) (ds := ds0 ++ (List.range j).map f) (by simp; omega)).use (s := { s with heap := h', toks := tk }) q1 fun r h'' tk' q2 => wpAny_pure (hR _ _ _ ?_)
      have := q2.2
      rw [List.append_assoc, show (List.range j).map f ++ [f j] = (List.range (j + 1)).map f by rw [List.range_succ, List.map_append]; rfl] at this
      exact this
    · intro h' tk K₃
      exact wpAny_pure (hR _ _ _ K₃)

theorem listcomp2_inner {elt t0 it0 t1 it1 : Expr} {scope : Scope} {pos : Pos} {es : List D} {es1 : Nat → List D} {f : Nat → Nat → D} (hsz : (rows es1 f es.length).length ≤ sizeLine) (X₀ : CompOf2 prog w H A a ρ scope t0 t1 it1 elt es es1 f)
    (hs1 : ∀ C Φ h₀ x, foldedSetIterable it1 (cact a scope C Φ h₀).env x = pure x)
    {C : Addr} {Φ : FM} {h₀ : Heap} {Dd I : Addr} {X : Nat → List (Addr × OD) → List (Value × D) → Prop} {Tw : List (Value × D)} (S : Src prog w H A t0 I es X []) (hX : X 0 Ow Tw) (s : Shared)
    (K : St prog w H (cact a scope C Φ h₀) (capRho a scope ρ) (Ow ++ [(Dd, .list [])]) Tw s.heap) :
    codeAny (model prog w) A (.compStart (.ListComp elt [⟨t0, it0, [], 0⟩, ⟨t1, it1, [], 0⟩] scope pos) 0 (.ref I) (.ref Dd) (cact a scope C Φ h₀).env)
      (fun r s' => r = .ok .next ∧ ∃ h' tk ρ' T', s' = { s with heap := h', toks := tk } ∧ St prog w H (cact a scope C Φ h₀) ρ' [(Dd, .list (rows es1 f es.length))] T' h') s := by
  have K' : St prog w H (cact a scope C Φ h₀) (capRho a scope ρ) (Ow ++ ([(Dd, OD.list (rows es1 f 0))] ++ [])) (Tw ++ []) s.heap := by
    rw [List.append_nil, List.append_nil]; exact K
  refine comp_start (g := ⟨t0, it0, [], 0⟩) rfl rfl rfl rfl rfl ?_ (S.self _ _ _ _ 0 Ow Tw s hX K')
  have hρ : ∀ i, ∃ ρb : Rho, (∀ x b, capRho a scope ρ x = some b → ρb x = some b) ∧ ∀ d, es[i]? = some d → (∀ C Φ h₀, Asg prog w H A (cact a scope C Φ h₀) t0 d (capRho a scope ρ) ρb ∧ ∀ O, EvIt prog w H A (cact a scope C Φ h₀) ρb O O [] t1 it1 (es1 i)) ∧
    ∀ j d1, (es1 i)[j]? = some d1 → ∃ ρc : Rho, (∀ x b, ρb x = some b → ρc x = some b) ∧ ∀ C Φ h₀, Asg prog w H A (cact a scope C Φ h₀) t1 d1 ρb ρc ∧ ∀ O, Ev prog w H A (cact a scope C Φ h₀) ρc O elt (f i j) := fun i => by
    cases hd : es[i]? with
    | none => exact ⟨capRho a scope ρ, fun _ _ e => e, fun d e => nomatch e⟩
    | some d =>
      obtain ⟨ρb, h1, h2⟩ := X₀.parts i d hd
      exact ⟨ρb, h1, fun d' e => by cases e; exact h2⟩
  let ρb : Nat → Rho := fun i => (hρ i).choose
  have hρb : ∀ i, (∀ x b, capRho a scope ρ x = some b → ρb i x = some b) ∧ ∀ d, es[i]? = some d → (∀ C Φ h₀, Asg prog w H A (cact a scope C Φ h₀) t0 d (capRho a scope ρ) (ρb i) ∧ ∀ O, EvIt prog w H A (cact a scope C Φ h₀) (ρb i) O O [] t1 it1 (es1 i)) ∧
    ∀ j d1, (es1 i)[j]? = some d1 → ∃ ρc : Rho, (∀ x b, ρb i x = some b → ρc x = some b) ∧ ∀ C Φ h₀, Asg prog w H A (cact a scope C Φ h₀) t1 d1 (ρb i) ρc ∧ ∀ O, Ev prog w H A (cact a scope C Φ h₀) ρc O elt (f i j) := fun i => (hρ i).choose_spec
  refine comp_loop (ipos := it0.pos) (ifs := []) (target := t0) (emit := emit2 (.ListComp elt [⟨t0, it0, [], 0⟩, ⟨t1, it1, [], 0⟩] scope pos) it1 (.ref Dd) (cact a scope C Φ h₀).env) (capRho a scope ρ) ρb (fun i => [(Dd, OD.list (rows es1 f i))]) (fun _ => true) rfl rfl rfl ?_ S
    (fun i d hd => (((hρb i).2 d hd).1 C Φ h₀).1) (fun i => (hρb i).1) (fun i d hd O T => tests_nil) ?_ (fun _ _ _ h => nomatch h) s hX K' ?_
  · exact compTurn_two ..
  · intro i d hd _ Oz T
    have hp := (hρb i).2 d hd
    have hlt : i < es.length := (List.getElem?_eq_some_iff.mp hd).1
    have := inner_two (T := T) (Oz := Oz) (t0 := t0) (it0 := it0) (scope := scope) (pos := pos) (Dd := Dd) (ds0 := rows es1 f i) (f := f i) (elt := elt) (hs1 C Φ h₀) ((hp.1 C Φ h₀).2 _) (fun j d1 hd1 => by
      obtain ⟨ρc, h1, h2⟩ := hp.2 j d1 hd1
      exact ⟨ρc, h1, h2 C Φ h₀⟩) (by
        have h1 := rows_len (es1 := es1) (f := f) (Nat.succ_le_of_lt hlt)
        rw [rows_succ, List.length_append] at h1
        unfold row at h1
        rw [List.length_map, List.length_range] at h1
        omega)
    refine this.post fun _ h k => ?_
    show St prog w H (cact a scope C Φ h₀) (ρb i) ((Dd, OD.list (rows es1 f (i + 1))) :: Oz) T h
    rw [rows_succ]
    exact k
  · intro h' tk K₂
    exact ⟨rfl, h', tk, _, _, rfl, by simpa using K₂⟩

theorem Ev.listcomp2 {elt t0 it0 t1 it1 : Expr} {scope : Scope} {pos : Pos} {es : List D} {es1 : Nat → List D} {f : Nat → Nat → D} (it : EvIt prog w H A a ρ O O [] t0 it0 es) (X : CompOf2 prog w H A a ρ scope t0 t1 it1 elt es es1 f)
    (hsz : (rows es1 f es.length).length ≤ sizeLine) (hok : capOk scope a.env = true := by rfl) (hs : ∀ x, foldedSetIterable it0 a.env x = pure x := by intro _; rfl) (hs1 : ∀ C Φ h₀ x, foldedSetIterable it1 (cact a scope C Φ h₀).env x = pure x := by intro _ _ _ _; rfl) :
    Ev prog w H A a ρ O (.ListComp elt [⟨t0, it0, [], 0⟩, ⟨t1, it1, [], 0⟩] scope pos) (.list (rows es1 f es.length)) :=
  fun T => Tr.of fun s R K hR => by
    rw [eval_ListComp]
    refine comp_base (g := ⟨t0, it0, [], 0⟩) (gs := [⟨t1, it1, [], 0⟩]) (use := none) (od0 := .list []) (od1 := .list (rows es1 f es.length)) (d := .list (rows es1 f es.length)) rfl hs hok acc_list it
      (fun C Φ h₀ Dd I X' Ow Tw S hX s K => listcomp2_inner hsz X hs1 S hX s K) (fun a' ρ' T' h' Dd _ K => K.freeze) K ?_
    intro C Dd h' tk oC K' hns
    obtain ⟨m, hm⟩ := hns
    exact ⟨m, hm, fun h'' hs'' => hR _ _ _ (St.lose K' fun b o hb e => (hs''.2 b hb).trans e)⟩

/-! a dict comprehension with one clause and no test -/
structure CompOfD (prog : Program) (w : World) (H : Heap) (A : Around) (a : Act) (ρ : Rho) (scope : Scope) (target kx vx : Expr) (es : List D) (kf : Nat → Str) (vf : Nat → Int) : Prop where
  parts : ∀ i d, es[i]? = some d → ∃ ρb : Rho, (∀ x b, capRho a scope ρ x = some b → ρb x = some b) ∧ ∀ C Φ h₀, Asg prog w H A (cact a scope C Φ h₀) target d (capRho a scope ρ) ρb ∧
    (∀ O, Ev prog w H A (cact a scope C Φ h₀) ρb O kx (.str (kf i))) ∧ ∀ O, Ev prog w H A (cact a scope C Φ h₀) ρb O vx (.int (vf i))

theorem own_dictSet {n : Addr} {kvs : List (Str × Int)} {k : Str} {i : Int} {vk v : Value} (hsz : kvs.length ≤ sizeLine) :
    Tr prog w A (dictSet n vk v) (St prog w H a ρ ((n, .dict kvs) :: O) ((v, .int i) :: (vk, .str k) :: T)) (fun _ h => St prog w H a ρ ((n, .dict (put kvs k i)) :: O) T h) := Tr.of fun s R K hR => by
  obtain ⟨t, rfl⟩ := K.int (v := v) (i := i) (.head _)
  obtain ⟨u, rfl⟩ := K.str (v := vk) (x := k) (.tail _ (.head _))
  obtain ⟨φ, m, q⟩ := id K
  obtain ⟨o, ho, kv, hkv, htv⟩ := q.own _ (.head _)
  refine wpAny_dictSet_pairs (knd := PySem.strKind prog w) (kvs := kv) (k := k) key_str (Heap.dictOf_iff.mpr ⟨o, ho, hkv⟩) (fun h' hd' hs' => ?_) (by rw [tv_len htv]; exact hsz)
  obtain ⟨o', ho', hkv'⟩ := Heap.dictOf_iff.mp hd'
  refine hR _ _ _ ((St.set (d' := .dict (put kvs k i)) K hs' ho' fun φ' hT hO => ⟨_, hkv', stored_tv htv⟩).sub fun p hp => .tail _ (.tail _ hp))

theorem acc_dict (s : Shared) (R : Value → Shared → Prop) (h : ∀ o, OwnIs prog w (fun _ => none) o (.dict []) → (s.heap.push o).get? s.heap.objs.size = some o → R (.ref s.heap.objs.size) { s with heap := s.heap.push o }) : wpAny (model prog w) A newDict R (fun _ _ => False) s := by
  have e0 : (s.heap.push { cls := .type "dict", data := .dict #[] }).get? s.heap.objs.size = some { cls := .type "dict", data := .dict #[] } := Heap.get?_push_size _ rfl
  have hown : OwnIs prog w (fun _ => none) { cls := .type "dict", data := .dict #[] } (.dict []) := by
    obtain ⟨o, ho, hd⟩ := Heap.dictOf_iff.mp (Heap.DictOf.new (knd := PySem.strKind prog w) s.heap)
    rw [Option.some.inj (e0.symm.trans ho)]
    exact ⟨[], hd, rfl⟩
  exact wpAny_newObj_type (h _ hown e0)

theorem dictcomp_inner {kx vx target iter : Expr} {scope : Scope} {pos : Pos} {es : List D} {kf : Nat → Str} {vf : Nat → Int} (hsz : es.length ≤ sizeLine) (X₀ : CompOfD prog w H A a ρ scope target kx vx es kf vf)
    {C : Addr} {Φ : FM} {h₀ : Heap} {Dd I : Addr} {X : Nat → List (Addr × OD) → List (Value × D) → Prop} {Tw : List (Value × D)} (S : Src prog w H A target I es X []) (hX : X 0 Ow Tw) (s : Shared)
    (K : St prog w H (cact a scope C Φ h₀) (capRho a scope ρ) (Ow ++ [(Dd, .dict [])]) Tw s.heap) :
    codeAny (model prog w) A (.compStart (.DictComp kx vx [⟨target, iter, [], 0⟩] scope pos) 0 (.ref I) (.ref Dd) (cact a scope C Φ h₀).env)
      (fun r s' => r = .ok .next ∧ ∃ h' tk ρ' T', s' = { s with heap := h', toks := tk } ∧ St prog w H (cact a scope C Φ h₀) ρ' [(Dd, .dict (puts kf vf es.length))] T' h') s := by
  have K' : St prog w H (cact a scope C Φ h₀) (capRho a scope ρ) (Ow ++ ([(Dd, OD.dict (puts kf vf 0))] ++ [])) (Tw ++ []) s.heap := by
    rw [List.append_nil, List.append_nil]; exact K
  refine comp_start (g := ⟨target, iter, [], 0⟩) rfl rfl rfl rfl rfl ?_ (S.self _ _ _ _ 0 Ow Tw s hX K')
  have hρ : ∀ i, ∃ ρb : Rho, (∀ x b, capRho a scope ρ x = some b → ρb x = some b) ∧ ∀ d, es[i]? = some d → ∀ C Φ h₀, Asg prog w H A (cact a scope C Φ h₀) target d (capRho a scope ρ) ρb ∧
    (∀ O, Ev prog w H A (cact a scope C Φ h₀) ρb O kx (.str (kf i))) ∧ ∀ O, Ev prog w H A (cact a scope C Φ h₀) ρb O vx (.int (vf i)) := fun i => by
    cases hd : es[i]? with
    | none => exact ⟨capRho a scope ρ, fun _ _ e => e, fun d e => nomatch e⟩
    | some d =>
      obtain ⟨ρb, h1, h2⟩ := X₀.parts i d hd
      exact ⟨ρb, h1, fun d' e => by cases e; exact h2⟩
  let ρb : Nat → Rho := fun i => (hρ i).choose
  have hρb : ∀ i, (∀ x b, capRho a scope ρ x = some b → ρb i x = some b) ∧ ∀ d, es[i]? = some d → ∀ C Φ h₀, Asg prog w H A (cact a scope C Φ h₀) target d (capRho a scope ρ) (ρb i) ∧
    (∀ O, Ev prog w H A (cact a scope C Φ h₀) (ρb i) O kx (.str (kf i))) ∧ ∀ O, Ev prog w H A (cact a scope C Φ h₀) (ρb i) O vx (.int (vf i)) := fun i => (hρ i).choose_spec
  refine comp_loop (ipos := iter.pos) (ifs := []) (target := target) (emit := (do let kv ← eval kx (cact a scope C Φ h₀).env; let vv ← holding [kv] (eval vx (cact a scope C Φ h₀).env); standAt { kx.pos with endLine := vx.pos.endLine, endCol := vx.pos.endCol }; holding [kv, vv] (dictSet Dd kv vv)))
    (capRho a scope ρ) ρb (fun i => [(Dd, OD.dict (puts kf vf i))]) (fun _ => true) rfl rfl rfl ?_ S
    (fun i d hd => ((hρb i).2 d hd C Φ h₀).1) (fun i => (hρb i).1) (fun i d hd O T => tests_nil) ?_ (fun _ _ _ h => nomatch h) s hX K' ?_
  · exact compTurn_dict ..
  · intro i d hd _ Oz T
    have hev := ((hρb i).2 d hd C Φ h₀).2
    have hlt : i < es.length := (List.getElem?_eq_some_iff.mp hd).1
    refine Tr.of fun s R q hR => ?_
    refine wpAny_bind ((hev.1 _ T).use q fun kv h1 tk1 q1 => wpAny_bind (wpAny_holding ((hev.2 _ _).use q1 fun vv h2 tk2 q2 => wpAny_bind (wpAny_standAt (wpAny_holding ?_)))))
    refine (own_dictSet (Nat.le_trans (puts_len kf vf i) (Nat.le_trans (Nat.le_of_lt hlt) hsz))).use q2 fun _ h3 tk3 q3 => hR _ _ _ ?_
    rw [puts_succ]
    exact q3
  · intro h' tk K₂
    exact ⟨rfl, h', tk, _, _, rfl, by simpa using K₂⟩

theorem Ev.dictcomp {kx vx target iter : Expr} {scope : Scope} {pos : Pos} {es : List D} {kf : Nat → Str} {vf : Nat → Int} (W : Wo prog w H mg mb) (it : EvIt prog w H A a ρ O O [] target iter es) (X : CompOfD prog w H A a ρ scope target kx vx es kf vf)
    (hsz : es.length ≤ sizeLine) (hok : capOk scope a.env = true := by rfl) (hs : ∀ x, foldedSetIterable iter a.env x = pure x := by intro _; rfl) : Ev prog w H A a ρ O (.DictComp kx vx [⟨target, iter, [], 0⟩] scope pos) (.dict (puts kf vf es.length)) :=
  fun T => Tr.of fun s R K hR => by
    show wpAny _ A (comprehension (.DictComp kx vx [⟨target, iter, [], 0⟩] scope pos) scope a.env (firstIterPos [⟨target, iter, [], 0⟩] pos) newDict false (eval iter a.env) none) _ _ s
    refine comp_base (g := ⟨target, iter, [], 0⟩) (gs := []) (use := none) (od0 := .dict []) (od1 := .dict (puts kf vf es.length)) (d := .dict (puts kf vf es.length)) rfl hs hok acc_dict it
      (fun C Φ h₀ Dd I X' Ow Tw S hX s K => dictcomp_inner hsz X S hX s K) (fun a' ρ' T' h' Dd hb K => K.freezeD ?_) K ?_
    · have h2 : ∃ o, (hd.heap_1 w.params).lookup 2 = some o := ⟨_, rfl⟩
      obtain ⟨o, ho⟩ := h2
      have := hb _ _ (W.X _ _ ho)
      have hs : sysModules = 1 := rfl
      have hne : Dd ≠ sysModules := by rw [hs]; intro e; rw [e] at this; exact absurd this (by decide)
      simpa using hne
    intro C Dd h' tk oC K' hns
    obtain ⟨m, hm⟩ := hns
    exact ⟨m, hm, fun h'' hs'' => hR _ _ _ (St.lose K' fun b o hb e => (hs''.2 b hb).trans e)⟩
end
end Mine

namespace Mine

section
variable {prog : Program} {w : World} {H : Heap} {A : Around} {a a' : Act} {ρ ρ' : Rho} {O O' O₁ Oe Ow Ow' Oz : List (Addr × OD)} {T T' Tn Tw : List (Value × D)} {φ φ' : FM} {m m' : Str → Option Value} {h h' : Heap} {mg mb : Str → Option Value}

theorem P1.range {n : Int} : P1 prog w H A (fun v => call (.type "range") [v]) (.int n) (.range 0 n) := fun a ρ O T v => Tr.of fun s R K hR => by
  obtain ⟨t, rfl⟩ := K.int (i := n) (v := v) (.head _)
  exact call_range_1 (hR _ _ _ (K.tail.alloc (Keep.push _ _) (fresh_none _) (Heap.get?_push_size _ rfl) fun φ _ e => .range e))
theorem P1.len {ds : List D} (hsz : ds.length < 1000000) : P1 prog w H A (fun v => call (.builtin "len") [v]) (.list ds) (.int ds.length) := fun a ρ O T v => Tr.of fun s R K hR => by
  obtain ⟨n, vs, rfl, hp, hl, K₁⟩ := K.list (.head _)
  refine PyProof.Rows.len_list hp.isList (by rw [List.size_toArray, hl]; omega) ?_
  rw [List.size_toArray, hl]
  exact hR _ s.heap _ K.tail.addInt

theorem intsAre_of {φ : FM} {vs : List Value} {ns : List Int} (r : RdAll prog w φ vs (ns.map .int)) : IntsAre vs ns := ints_are r
theorem IntsAre.rd {φ : FM} {vs : List Value} {ns : List Int} (r : IntsAre vs ns) : RdAll prog w φ vs (ns.map .int) := by
  induction r with
  | nil => exact .nil
  | cons n t r ih => exact .cons (.int n t) ih
theorem preSum_list (ns : List Int) : ∀ n, n ≤ ns.length → preSum (fun i => ns.getD i 0) n = (ns.take n).sum
  | 0, _ => rfl
  | n + 1, h => by
    have hlt : n < ns.length := h
    show preSum (fun i => ns.getD i 0) n + ns.getD n 0 = _
    rw [preSum_list ns n (Nat.le_of_lt hlt), List.take_add_one, List.sum_append, List.getElem?_eq_getElem hlt]
    simp [List.getD, List.getElem?_eq_getElem hlt]

theorem sum_any {l : Addr} {vs : List Value} {ns : List Int} (hh : A.handled = none) (hI : IntsAre vs ns) :
    Tr prog w A (call (.builtin "sum") [.ref l]) (fun g => St prog w H a ρ O T g ∧ g.IsList l vs.toArray) (fun v h => St prog w H a ρ O ((v, .int ns.sum) :: T) h) := Tr.of fun s R hP hR => by
  obtain ⟨K, hL⟩ := hP
  obtain ⟨ol, hol, _⟩ := id hL
  have hlen : vs.length = ns.length := by
    have := RdAll.length (IntsAre.rd (prog := prog) (w := w) (φ := fun _ => none) hI)
    rwa [List.length_map] at this
  refine call_sum_walkG (wpAny_pyIter_list hL ⟨s.heap.objs.size, _, _, _, _, _, fun i => ns.getD i 0, rfl, Walks.list (prog := prog) (w := w) (A := A.in1) hh s.heap.objs.size l (Nat.ne_of_lt (Heap.lt_size hol)) vs.toArray, ⟨⟨_, Heap.get?_push_size _ rfl, rfl, rfl⟩, hL.at fun o e => Heap.get?_push_of_some _ e⟩, ?_, ?_, ?_⟩)
  · intro b hb
    rw [Heap.size_push]
    rcases List.mem_cons.mp hb with rfl | hb
    · exact Nat.lt_succ_self _
    · rw [List.mem_singleton] at hb; subst hb; exact Nat.lt_succ_of_lt (Heap.lt_size hol)
  · intro i v hv
    have hv' : vs[i]? = some v := by simpa using hv
    obtain ⟨d, hd, r⟩ := RdAll.get' (IntsAre.rd (prog := prog) (w := w) (φ := fun _ => none) hI) hv'
    rw [List.getElem?_map] at hd
    obtain ⟨n, hn, rfl⟩ := Option.map_eq_some_iff.mp hd
    obtain ⟨t, rfl⟩ := r.inv
    · refine ⟨t, ?_⟩
      show _ = Value.int (ns.getD i 0) _
      rw [List.getD_eq_getElem?_getD, hn]; rfl
  · intro h' tk t' hk
    rw [List.size_toArray, hlen, preSum_list ns ns.length (Nat.le_refl _), List.take_length]
    refine hR _ _ _ ((K.keep fun b o e => ?_).addInt)
    refine hk b o ?_ (Heap.get?_push_of_some _ e)
    rw [List.mem_singleton]
    exact Nat.ne_of_lt (Heap.lt_size e)
theorem P1.sumL {ns : List Int} (hh : A.handled = none) : P1 prog w H A (fun v => call (.builtin "sum") [v]) (.list (ns.map .int)) (.int ns.sum) := fun a ρ O T v => Tr.of fun s R K hR => by
  obtain ⟨φ, m, q⟩ := id K
  have hq := q.temps (v, .list (ns.map .int)) (.head _)
  obtain ⟨l, vs, n, rfl, e, r⟩ := hq.inv
  exact (sum_any hh (intsAre_of r)).use ⟨K.tail, ⟨_, q.sub _ _ e, rfl, n, rfl⟩⟩ hR
theorem P1.sumA {ns : List Int} (hh : A.handled = none) : P1 prog w H A (fun v => call (.builtin "sum") [v]) (.arg (ns.map .int)) (.int ns.sum) := fun a ρ O T v => Tr.of fun s R K hR => by
  obtain ⟨φ, m, q⟩ := id K
  have hq := q.temps (v, .arg (ns.map .int)) (.head _)
  obtain ⟨l, o, vs, n, rfl, e, hc, hd, r⟩ := hq.inv
  exact (sum_any hh (intsAre_of r)).use ⟨K.tail, ⟨o, q.sub _ _ e, hc, n, hd⟩⟩ hR

/-- ints in order -/
noncomputable def sortI (ns : List Int) : List Int := ns.mergeSort (fun a b => decide (a ≤ b))
theorem sortI_eq {ns ns' : List Int} (hp : ns'.Perm ns) (hs : ns'.Pairwise (· ≤ ·)) : ns' = sortI ns := by
  refine List.Perm.eq_of_pairwise (le := fun a b : Int => a ≤ b) (fun a b _ _ h1 h2 => Int.le_antisymm h1 h2) hs ?_ (hp.trans (List.mergeSort_perm ns _).symm)
  have := List.pairwise_mergeSort (le := fun a b : Int => decide (a ≤ b)) (fun a b c h1 h2 => by simp only [decide_eq_true_eq] at *; omega) (fun a b => by simp only [Bool.or_eq_true, decide_eq_true_eq]; omega) ns
  exact this.imp fun h => by simpa using h
theorem P1.sortedL {ns : List Int} (h64 : ns.length < 64) : P1 prog w H A (fun v => call (.builtin "sorted") [v]) (.list (ns.map .int)) (.list ((sortI ns).map .int)) := fun a ρ O T v => Tr.of fun s R K hR => by
  obtain ⟨φ, m, q⟩ := id K
  have hq := q.temps (v, .list (ns.map .int)) (.head _)
  obtain ⟨l, vs, n, rfl, e, r⟩ := hq.inv
  · have hlen := r.length
    rw [List.length_map] at hlen
    refine PyProof.Rows.sorted_ints ⟨_, q.sub _ _ e, rfl, n, rfl⟩ (intsAre_of r) (by rw [hlen]; exact h64) fun out ns' hI hp hs => ?_
    rw [← sortI_eq hp hs] at hR
    obtain ⟨ep, hep⟩ := sortedAll_at s.heap vs out
    refine hR _ _ s.toks (K.tail.alloc (n := s.heap.objs.size + 1) (fun b o e => sortedAll_old e) (fresh_ge (Nat.le_succ _)) hep fun φ _ e => ?_)
    refine .list (vs := out.toList) (n := ep) (by rw [e]) (IntsAre.rd hI)

/-- letters[1:] -/
theorem P2.sliceS {x : Str} {lo hi : Option Int} (hne : ((Builtin.Str.strSliceIndices lo hi 1 x.length).length == x.length) = false) (hsz : ((Builtin.Str.strSliceIndices lo hi 1 x.length).filterMap (x.cps[·]?)).length ≤ sizeLine) : P2 prog w H A getItem (.str x) (.slice lo hi none) (.str ⟨((Builtin.Str.strSliceIndices lo hi 1 x.length).filterMap (x.cps[·]?)).toArray⟩) := fun a ρ O T v1 v2 => Tr.of fun s R K hR => by
  obtain ⟨t, rfl⟩ := K.str (x := x) (v := v1) (.tail _ (.head _))
  obtain ⟨φ, m, q⟩ := id K
  have hq2 := q.temps (v2, .slice lo hi none) (.head _)
  obtain ⟨sl, u1, u2, u3, rfl, e2, p1, p2, p3⟩ := hq2.inv
  · have part : ∀ {u : Value} {k : Option Int}, IsPart u k → ∃ l : Option (Int × Tok), l.map (·.1) = k ∧ u = partValue l := fun p => by
      cases p with
      | none => exact ⟨none, rfl, rfl⟩
      | int i t => exact ⟨some (i, t), rfl, rfl⟩
    obtain ⟨l1, rfl, rfl⟩ := part p1
    obtain ⟨l2, rfl, rfl⟩ := part p2
    cases p3
    refine wpAny_getItem_str_slice (l := l1) (u := l2) (st := none) ⟨_, q.sub _ _ e2, rfl, rfl⟩ rfl ?_
    have K' := K.sub (T' := T) fun p hp => .tail _ (.tail _ hp)
    have hKx := K.sub (T' := (.str x t, .str x) :: T) fun p hp => by
      rcases List.mem_cons.mp hp with rfl | hp
      · exact .tail _ (.head _)
      · exact .tail _ (.tail _ hp)
    unfold sliceMade slicePicked
    rw [if_neg (by show ¬ ((1 : Int) == 1 && (Builtin.Str.strSliceIndices _ _ 1 x.length).length == x.length) = true; rw [hne]; simp)]
    exact ⟨by show (List.toArray _).size ≤ _; rw [List.size_toArray]; exact hsz, hR _ s.heap _ K'.addStr⟩
end
end Mine

namespace Mine

section
variable {prog : Program} {w : World} {H : Heap} {A : Around} {a a' : Act} {ρ ρ' : Rho} {O O' O₁ Oe Ow Ow' Oz : List (Addr × OD)} {T T' Tn Tw : List (Value × D)} {φ φ' : FM} {m m' : Str → Option Value} {h h' : Heap} {mg mb : Str → Option Value}
theorem P1.set {ns : List Int} (hh : A.handled = none) (hns : three ns) (hlen : ns.length ≤ 1000) : P1 prog w H A (fun v => call (.type "set") [v]) (.list (ns.map .int)) (.set ns) := fun a ρ O T v => Tr.of fun s R K hR => by
  obtain ⟨φ, m, q⟩ := id K
  have hq := q.temps (v, .list (ns.map .int)) (.head _)
  obtain ⟨l, vs, n, rfl, e, r⟩ := hq.inv
  · refine call_set3 (items := vs.toArray) hh ⟨_, q.sub _ _ e, rfl, n, rfl⟩ (intsAre_of r) hns fun h' tk hS hk => ?_
    obtain ⟨ep, o0, o1, o6, ho, hm⟩ := hS
    exact hR _ _ _ (K.tail.alloc (fun b o e => hk b o (Heap.lt_size e) e) (fresh_none _) ho fun φ _ e => .set e ⟨ep, o0, o1, o6, rfl, hm⟩)

theorem sheap_old {h : Heap} {a b : Addr} {vs : List Value} {out : Array Value} {o : Obj} (hb : b ≠ a) (e : h.get? b = some o) : (sortedHeap h a vs out).get? b = some o :=
  (Heap.get?_update_other _ _ (Ne.symm hb)).trans (Heap.get?_push_of_some _ (Heap.get?_push_of_some _ ((Heap.get?_update_other _ _ (Ne.symm hb)).trans e)))
theorem sheap_at {h : Heap} {a : Addr} {vs : List Value} {out : Array Value} {items : Array Value} {n : Nat} (e : h.get? a = some (seqObj "list" items n)) : ∃ n', (sortedHeap h a vs out).get? a = some (seqObj "list" out n') :=
  ⟨_, get?_update_seq (Heap.get?_push_of_some _ (Heap.get?_push_of_some _ (get?_update_seq e (fun _ => #[])))) (fun _ => out)⟩

theorem heads_perm {o0 o1 o6 : Option Tok} {ns : List Int} (hm : SetMem o0 o1 o6 ns) : ((if o0.isSome then [(0 : Int)] else []) ++ (if o1.isSome then [1] else []) ++ (if o6.isSome then [-1] else [])).Perm (heads ns) := by
  obtain ⟨h0, h1, h6⟩ := hm
  unfold heads
  simp only [List.filter]
  rw [← h0, ← h1, ← h6]
  cases o0 <;> cases o1 <;> cases o6 <;> simp only [Option.isSome_some, Option.isSome_none, if_true, Bool.false_eq_true, if_false] <;> decide
theorem heads_sorted (ns : List Int) : (heads ns).Pairwise (· ≤ ·) := by
  unfold heads
  exact List.Pairwise.filter _ (by decide)

theorem P1.sortedSet {ns : List Int} (hh : A.handled = none) : P1 prog w H A (fun v => call (.builtin "sorted") [v]) (.set ns) (.list ((heads ns).map .int)) := fun a ρ O T v => Tr.of fun s R K hR => by
  obtain ⟨φ, m, q⟩ := id K
  have hq := q.temps (v, .set ns) (.head _)
  obtain ⟨sa, o, rfl, e, r⟩ := hq.inv
  · obtain ⟨ep, o0, o1, o6, rfl, hm⟩ := r
    have ho := q.sub _ _ e
    refine Calls.call_function_entry kind_sorted plain_sorted entry_sorted (args_sorted1 _) ?_
    unfold Builtin.«sorted»
    refine wpAny_bind (m := checkCount "sorted" 1 1 _) (wpAny_pure ?_)
    refine wpAny_bind (kdu_collect (A := A.in1) (src_set (ep := ep) (o0 := o0) (o1 := o1) (o6 := o6)) hh ho (els_fit _ _ _) fun h' tk acc hk hacc => ?_)
    have hl : acc.toList.map id = (walkL w sa ep (setEls o0 o1 o6)).toList.map (·.2) := by
      rw [List.map_id]
      refine List.ext_getElem? fun i => ?_
      rw [List.getElem?_map, Array.getElem?_toList, Array.getElem?_toList]
      cases ha : acc[i]? with
      | none =>
        have : acc.size ≤ i := Array.getElem?_eq_none_iff.mp ha
        rw [Array.getElem?_eq_none (by rw [walk_sz, ← hacc.1]; exact this)]
        rfl
      | some v => exact (hacc.2 i v ha).symm
    rw [List.map_id] at hl
    have hperm : acc.toList.Perm ((setEls o0 o1 o6).toList.map (·.2)) := by rw [hl]; exact (walk_perm _ _ _ _).map _
    have hI : IntsAre acc.toList (acc.toList.map valI) := ints_all _ fun v hv => els_int o0 o1 o6 v (hperm.mem_iff.mp hv)
    have hP : (acc.toList.map valI).Perm (heads ns) := (hperm.map valI).trans (by rw [els_val]; exact heads_perm hm)
    have hlen : acc.toList.length < 64 := by
      have h1 := hP.length_eq
      rw [List.length_map] at h1
      have : (heads ns).length ≤ 3 := List.length_filter_le _ _
      omega
    refine wpAny_bind (wpAny_newList ?_ (by have : sizeLine = 16777216 := rfl; omega))
    have hoL : (h'.push (seqObj "list" acc.toList.toArray 0)).get? h'.objs.size = some (seqObj "list" acc.toList.toArray 0) := Heap.get?_push_size _ rfl
    refine wpAny_bind (wpAny_holding (wpAny_call_entry slot_list_sort ⟨_, hoL, rfl⟩ entry_list_sort (list_sort_tree hoL hI hlen fun out ns' a1 a2 a3 => ⟨_, rfl, ?_⟩) (args_list_sort _)))
    refine wpAny_pure ⟨_, rfl, ?_⟩
    have ens : ns' = heads ns := List.Perm.eq_of_pairwise (le := fun a b : Int => a ≤ b) (fun a b _ _ h1 h2 => Int.le_antisymm h1 h2) a3 (heads_sorted ns) (a2.trans hP)
    obtain ⟨n', hn'⟩ := sheap_at (vs := acc.toList) (out := out) hoL
    refine hR _ _ _ (K.tail.alloc (n := h'.objs.size) (fun b o e => ?_) ?_ hn' fun φ _ e => ?_)
    · exact sheap_old (Nat.ne_of_lt (Heap.lt_size (hk b o e))) (Heap.get?_push_of_some _ (hk b o e))
    · cases hg : s.heap.get? h'.objs.size with
      | none => rfl
      | some o' => exact absurd (Heap.lt_size (hk _ _ hg)) (Nat.lt_irrefl _)
    · refine .list (vs := out.toList) (n := n') (by rw [e]) ?_
      rw [← ens]
      exact IntsAre.rd a1
end
end Mine

namespace Mine

/-- room for n more calls -/
structure Room (A : Around) (n : Nat) : Prop where
  hh : A.handled = none
  d : A.depth + n < recursionLimit
  u : A.units + 3 * n + 80 < cLine
theorem Room.deeper {A : Around} {n : Nat} (r : Room A (n + 1)) (env : Env) : Room (A.deeper env) n := by
  refine ⟨r.hh, ?_, ?_⟩
  · have := r.d
    show A.depth + 1 + n < _
    omega
  · have := r.u
    show A.units + 3 + 3 * n + 80 < _
    omega
theorem Room.less {A : Around} {n k : Nat} (r : Room A n) (h : k ≤ n) : Room A k := ⟨r.hh, by have := r.d; omega, by have := r.u; omega⟩
theorem Room.lt {A : Around} {n : Nat} (r : Room A n) : A.depth < recursionLimit := by have := r.d; omega

section
variable {prog : Program} {w : World} {H : Heap} {A : Around} {mg mb : Str → Option Value}

theorem PL.fnR {f : Addr} {o : Obj} {fd : FuncData} {body : List Stmt} {xs : List Str} {ds : List D} {d : D} {n : Nat} (W : Wo prog w H mg mb) (r : Room A (n + 1)) (hl : (hd.heap_1 w.params).lookup f = some o) (hdata : o.data = .func fd)
    (hcd : codeIn (hd.heap_1 w.params) fd.code fd.qualname = true) (hbody : fd.body = .stmts body) (hclo : fd.closure = [])
    (hbind : ∀ vs : List Value, vs.length = xs.length → bindArgs fd ⟨vs, []⟩ = pure (xs.zip vs)) (hlen : ds.length = xs.length) (hxs : xs.Nodup)
    (hkind : (xs.all fun x => fd.scope.names.lookup x == some .local || (fd.scope.names.lookup x == some .cell && ((cellsFrom 0 fd.scope.names []).lookup x).isSome)) = true)
    (hcells : ((cellsFrom 0 fd.scope.names []).map (·.1)).Nodup) (hgl : fd.globals = mainGlobals) (hbl : fd.builtins = builtinsNs)
    (hb : ∀ A' L Φ h₀, Room A' n → Tr prog w A' (execs body (fact fd f L Φ h₀).env) (St prog w H (fact fd f L Φ h₀) (argRho xs ds) [] [])
      (fun fl h => ∃ v ρ' O' T', fl = .ret v ∧ St prog w H (fact fd f L Φ h₀) ρ' O' ((v, d) :: T') h))
    (hco : fd.scope.isCoroutine = false := by rfl) (hgen : fd.scope.isGenerator = false := by rfl) (hk : fd.scope.kind = .function := by rfl) :
    PL prog w H A (fun vs => call (.ref f) vs) ds d :=
  PL.fn W hl hdata hcd hbody hclo r.lt hbind hlen hxs hkind hcells hgl hbl (fun L Φ h₀ => (hb _ L Φ h₀ (r.deeper _)).post fun fl h ⟨v, ρ', O', T', e, k⟩ => ⟨v, ρ', O', T', by rw [e], k⟩) hco hgen hk

noncomputable def rl (l : List (Str × B)) : Rho := fun y => l.lookup y
noncomputable def AllR (ρ : Rho) : List (Str × B) → Prop
  | [] => True
  | p :: l => ρ p.1 = some p.2 ∧ AllR ρ l
theorem AllR.sub {ρ : Rho} : ∀ {l : List (Str × B)}, AllR ρ l → ∀ x b, rl l x = some b → ρ x = some b
  | [], _, x, b, e => by cases e
  | p :: l, ⟨h1, h2⟩, x, b, e => by
    obtain ⟨y, c⟩ := p
    unfold rl at e
    rw [List.lookup_cons] at e
    by_cases hx : x = y
    · subst hx
      rw [beq_self_eq_true] at e
      cases e
      exact h1
    · have : (x == y) = false := by simpa using hx
      rw [this] at e
      exact AllR.sub h2 x b e
theorem St.rl {a : Act} {ρ : Rho} {O : List (Addr × OD)} {T : List (Value × D)} {h : Heap} {l : List (Str × B)} (K : St prog w H a ρ O T h) (x : AllR ρ l) : St prog w H a (rl l) O T h := K.forget x.sub

theorem upd_rl {l : List (Str × B)} {x : Str} {b : B} : upd (rl l) x b = Mine.rl ((x, b) :: l) := by
  funext y
  unfold upd Mine.rl
  rw [List.lookup_cons]
  by_cases hx : y = x
  · subst hx; rw [if_pos rfl, beq_self_eq_true]
  · rw [if_neg hx, show (y == x) = false by simpa using hx]
theorem Asg.nameL {a : Act} {l : List (Str × B)} {x : Str} {pos : Pos} {d : D} (hs : Storable a x) : Asg prog w H A a (.Name x pos) d (Mine.rl l) (Mine.rl ((x, .val d) :: l)) := upd_rl ▸ Asg.name hs
theorem Tr.ex2 {α ι : Type} {t : Sem α} {p : ι → Prop} {P : ι → Heap → Prop} {Q : α → Heap → Prop} (h : ∀ i, p i → Tr prog w A t (P i) Q) : Tr prog w A t (fun g => ∃ i, p i ∧ P i g) Q := fun s ⟨i, hp, k⟩ => h i hp s k
theorem St.toRl {a : Act} {ρ : Rho} {O : List (Addr × OD)} {T : List (Value × D)} {h : Heap} (l : List (Str × B)) (x : AllR ρ l) (K : St prog w H a ρ O T h) : St prog w H a (Mine.rl l) O T h := K.forget x.sub

/-- the for statement whose body goes on to its end -/
theorem ex_forN {α : Type} {a : Act} {ρ : Rho} {O O₁ Oe : List (Addr × OD)} {T : List (Value × D)} {target iter : Expr} {body : List Stmt} {pos : Pos} (xs : List α) (g : α → D) (ρ_ : Nat → List (Str × B)) (O_ : Nat → List (Addr × OD)) {ρb : Nat → α → Rho}
    (it : EvIt prog w H A a ρ O O₁ Oe target iter (xs.map g)) (h0 : AllR ρ (ρ_ 0)) (hO : O_ 0 = O₁)
    (hasg : ∀ i x, xs[i]? = some x → Asg prog w H A a target (g x) (Mine.rl (ρ_ i)) (ρb i x))
    (step : ∀ i x, xs[i]? = some x → ∀ Oz T, Tr prog w A (execs body a.env) (St prog w H a (ρb i x) (O_ i ++ Oz) T) (fun f h => (f = .next ∨ f = .cont) ∧ ∃ ρ', AllR ρ' (ρ_ (i + 1)) ∧ St prog w H a ρ' (O_ (i + 1) ++ Oz) T h))
    (hs : ∀ x, foldedSetIterable iter a.env x = pure x := by intro _; rfl) :
    Tr prog w A (exec (.For target iter body [] pos) a.env) (St prog w H a ρ O T) (Nx (St prog w H a (Mine.rl (ρ_ xs.length)) (O_ xs.length ++ Oe) T)) := by
  have := ex_for (pos := pos) (T := T) (fun i => Mine.rl (ρ_ i)) (fun i => match xs[i]? with | some x => ρb i x | none => fun _ => none) O_ (fun _ => True) (Rv := fun _ _ _ => False) it h0.sub hO trivial (body := body) ?_ ?_ (fun _ _ _ _ e => e) hs
  · refine this.post fun f h hh => ?_
    rcases hh with ⟨h1, _, h2⟩ | ⟨v, _, hf⟩
    · rw [List.length_map] at h2; exact ⟨h1, h2⟩
    · exact hf.elim
  · intro i d hd
    rw [List.getElem?_map] at hd
    obtain ⟨x, hx, rfl⟩ := Option.map_eq_some_iff.mp hd
    simp only [hx]
    exact hasg i x hx
  · intro i d hd _ Oz T
    rw [List.getElem?_map] at hd
    obtain ⟨x, hx, rfl⟩ := Option.map_eq_some_iff.mp hd
    simp only [hx]
    exact (step i x hx Oz T).post fun f h ⟨h1, ρ', h2, h3⟩ => .inl ⟨h1, trivial, h3.rl h2⟩

theorem execs_ret {a : Act} {ρ : Rho} {O : List (Addr × OD)} {T : List (Value × D)} {st : Stmt} {rest : List Stmt} {P : Heap → Prop} {d : D} (x : Tr prog w A (exec st a.env) P (fun f h => ∃ v, f = .ret v ∧ St prog w H a ρ O ((v, d) :: T) h)) :
    Tr prog w A (execs (st :: rest) a.env) P (fun fl h => ∃ v ρ' O' T', fl = .ret v ∧ St prog w H a ρ' O' ((v, d) :: T') h) := by
  refine execs_cons (x.post fun f h ⟨v, e, k⟩ => (⟨v, ρ, O, T, e, k⟩ : ∃ v ρ' O' T', f = .ret v ∧ St prog w H a ρ' O' ((v, d) :: T') h)) (Tr.of fun s R k hk => ?_) fun f h hf k => k
  obtain ⟨v, _, _, _, e, _⟩ := k
  cases e
theorem bind1 {fd : FuncData} {x : Str} (h : ∀ v, bindArgs fd ⟨[v], []⟩ = pure [(x, v)]) : ∀ vs : List Value, vs.length = [x].length → bindArgs fd ⟨vs, []⟩ = pure ([x].zip vs) := fun vs hv => by obtain ⟨v, rfl⟩ := len1 hv; exact h v
theorem bind2 {fd : FuncData} {x y : Str} (h : ∀ v u, bindArgs fd ⟨[v, u], []⟩ = pure [(x, v), (y, u)]) : ∀ vs : List Value, vs.length = [x, y].length → bindArgs fd ⟨vs, []⟩ = pure ([x, y].zip vs) := fun vs hv => by obtain ⟨v, u, rfl⟩ := len2 hv; exact h v u
theorem bind3 {fd : FuncData} {x y z : Str} (h : ∀ v u t, bindArgs fd ⟨[v, u, t], []⟩ = pure [(x, v), (y, u), (z, t)]) : ∀ vs : List Value, vs.length = [x, y, z].length → bindArgs fd ⟨vs, []⟩ = pure ([x, y, z].zip vs) := fun vs hv => by obtain ⟨v, u, t, rfl⟩ := len3 hv; exact h v u t

theorem C_count {kvs : List (Str × Int)} (W : Wo prog w H mg mb) (r : Room A 1) : PL prog w H A (fun vs => call (.ref 63) vs) [.dict kvs] (.int (psum kvs kvs.length)) := by
  refine PL.fnR (f := 63) (xs := ["callers"]) W r rfl rfl (by rfl) rfl rfl (bind1 fun _ => rfl) rfl (by decide) (by decide) (by decide) rfl rfl fun A L Φ h₀ r => ?_
  refine execs_next (ex_assign Ev.int (.inl rfl)) ?_
  refine execs_next (ex_forN kvs _ (fun i => [("callers", .val (.dict kvs)), ("nc", .val (.int (psum kvs i)))]) (fun _ => []) (EvIt.of (Ev.values (Ev.name rfl)) (Itr.vals r.hh)) ⟨rfl, rfl, trivial⟩ rfl (fun i d hd => Asg.nameL (.inl rfl)) fun i p hp Oz T => ?_) ?_
  · refine execs_next (ex_addN rfl (Ev.name rfl) (.inl rfl)) (execs_nil fun g k => ⟨.inl rfl, _, ⟨rfl, ?_, trivial⟩, k⟩)
    rw [psum_succ hp]; rfl
  · exact execs_ret (ex_return (Ev.name rfl))

theorem C_add {t s : List (Str × Int)} (W : Wo prog w H mg mb) (r : Room A 1) (ht : t.length + s.length ≤ sizeLine) : PL prog w H A (fun vs => call (.ref 56) vs) [.dict t, .dict s] (.dict (addC t s)) := by
  refine PL.fnR (f := 56) (xs := ["target", "source"]) W r rfl rfl (by rfl) rfl rfl (bind2 fun _ _ => rfl) rfl (by decide) (by decide) (by decide) rfl rfl fun A L Φ h₀ r => ?_
  refine execs_next (ex_assign_dict W (.inl rfl)) (Tr.ex2 fun n hn => ?_)
  refine execs_next (ex_forN t _ (fun i => [("target", .val (.dict t)), ("source", .val (.dict s)), ("new_callers", .own n)]) (fun i => [(n, .dict (add1 t i))]) (EvIt.of (Ev.items (Ev.name rfl)) (Itr.items r.hh)) ⟨rfl, rfl, rfl, trivial⟩ rfl
    (fun i d hd => Asg.tupg r.hh (AsgL.cons (Asg.nameL (.inl rfl)) (AsgL.cons (Asg.nameL (.inl rfl)) AsgL.nil)) rfl rfl) fun i p hp Oz T => ?_) ?_
  · refine execs_next (ex_setD rfl (Ev.name rfl) (Ev.name rfl) ?_) (execs_nil fun g k => ⟨.inl rfl, _, ⟨rfl, rfl, rfl, trivial⟩, add1_succ hp ▸ k⟩)
    have := add1_len t i
    have := (List.getElem?_eq_some_iff.mp hp).1
    omega
  · refine execs_next (ex_forN s _ (fun i => [("target", .val (.dict t)), ("source", .val (.dict s)), ("new_callers", .own n)]) (fun i => [(n, .dict (add2 (add1 t t.length) s i))]) (EvIt.of (Ev.items (Ev.name rfl)) (Itr.items r.hh)) ⟨rfl, rfl, rfl, trivial⟩ rfl
      (fun i d hd => Asg.tupg r.hh (AsgL.cons (Asg.nameL (.inl rfl)) (AsgL.cons (Asg.nameL (.inl rfl)) AsgL.nil)) rfl rfl) fun i p hp Oz T => ?_) ?_
    · have hlen := add2_len (add1 t t.length) s i
      have hl1 := add1_len t t.length
      have hi := (List.getElem?_eq_some_iff.mp hp).1
      have hsz : (add2 (add1 t t.length) s i).length ≤ sizeLine := by omega
      refine execs_next (P' := St prog w H _ (rl [("target", .val (.dict t)), ("source", .val (.dict s)), ("new_callers", .own n)]) ((n, .dict (add2 (add1 t t.length) s (i + 1))) :: Oz) T) ?_ (execs_nil fun g k => ⟨.inl rfl, _, ⟨rfl, rfl, rfl, trivial⟩, k⟩)
      refine ex_if (Tt.inD rfl hn (Ev.name rfl)) (fun hb => ?_) (fun hb => ?_)
      · refine execs_next (P' := St prog w H _ (rl [("target", .val (.dict t)), ("source", .val (.dict s)), ("new_callers", .own n)]) ((n, .dict (add2 (add1 t t.length) s (i + 1))) :: Oz) T) (ex_if (Tt.ofEv (Ev.isinst W rfl rfl rfl rfl (Ev.name rfl))) (fun hf => nomatch hf) (fun _ => ?_)) (execs_nil fun g k => ⟨rfl, k⟩)
        have hfind : ∃ q, (add2 (add1 t t.length) s i).find? (fun q => q.1 = p.1) = some (p.1, q) := by
          cases hf : (add2 (add1 t t.length) s i).find? (fun q => q.1 = p.1) with
          | none =>
            rw [List.find?_eq_none] at hf
            obtain ⟨q, hq, e⟩ := List.any_eq_true.mp hb
            exact absurd e (hf q hq)
          | some q =>
            have := List.find?_some hf
            simp only [decide_eq_true_eq] at this
            exact ⟨q.2, by rw [← this]⟩
        obtain ⟨q, hq⟩ := hfind
        have e2 := add2_succ (b := add1 t t.length) hp
        unfold bump at e2
        rw [hq] at e2
        exact execs_next (ex_addD rfl rfl hq (Ev.name rfl) hsz) (execs_nil fun g k => ⟨rfl, e2 ▸ k.toRl _ ⟨rfl, rfl, rfl, trivial⟩⟩)
      · have hq : (add2 (add1 t t.length) s i).find? (fun q => q.1 = p.1) = none := by
          rw [List.find?_eq_none]
          intro q hq e
          exact absurd (List.any_eq_true.mpr ⟨q, hq, e⟩) (by rw [hb]; decide)
        have e2 := add2_succ (b := add1 t t.length) hp
        unfold bump at e2
        rw [hq] at e2
        exact execs_next (ex_setD rfl (Ev.name rfl) (Ev.name rfl) hsz) (execs_nil fun g k => ⟨rfl, e2 ▸ k.toRl _ ⟨rfl, rfl, rfl, trivial⟩⟩)
    · have e : add2 (add1 t t.length) s s.length = addC t s := rfl
      rw [e]
      exact execs_ret (ex_return_dict (x := "new_callers") rfl hn)
end
end Mine

namespace Mine

section
variable {prog : Program} {w : World} {H : Heap} {A : Around} {a a' : Act} {ρ ρ' : Rho} {O O' O₁ Oe Ow Ow' Oz : List (Addr × OD)} {T T' Tn Tw : List (Value × D)} {φ φ' : FM} {m m' : Str → Option Value} {h h' : Heap} {mg mb : Str → Option Value}

theorem range_pick {α β : Type} (p : α → Bool) (f : α → β) (d : β) : ∀ xs : List α, ((List.range xs.length).filter fun i => (xs[i]?).elim false p).map (fun i => (xs[i]?).elim d f) = (xs.filter p).map f
  | [] => rfl
  | x :: xs => by
    have ih := range_pick p f d xs
    rw [List.length_cons, List.range_succ_eq_map, List.filter_cons, List.filter_map, List.filter_cons]
    have e0 : ((x :: xs)[0]?).elim false p = p x := rfl
    rw [e0]
    have e1 : (fun i => ((x :: xs)[i]?).elim false p) ∘ Nat.succ = fun i => (xs[i]?).elim false p := by funext i; rfl
    have e2 : (fun i => ((x :: xs)[i]?).elim d f) ∘ Nat.succ = fun i => (xs[i]?).elim d f := by funext i; rfl
    rw [e1]
    cases p x
    · simp only [Bool.false_eq_true, if_false]
      rw [List.map_map, e2, ih]
    · simp only [if_true]
      rw [List.map_cons, List.map_map, e2, ih, List.map_cons]; rfl

structure CompM (prog : Program) (w : World) (H : Heap) (A : Around) (a : Act) (ρ : Rho) (scope : Scope) (target : Expr) (ifs : List Expr) (elt : Expr) {α : Type} (xs : List α) (g : α → D) (p : α → Bool) (f : α → D) : Prop where
  parts : ∀ x ∈ xs, ∃ ρb : Rho, (∀ y b, capRho a scope ρ y = some b → ρb y = some b) ∧ ∀ C Φ h₀, Asg prog w H A (cact a scope C Φ h₀) target (g x) (capRho a scope ρ) ρb ∧
    (∀ O T, Tr prog w A (testsT ifs (cact a scope C Φ h₀).env) (St prog w H (cact a scope C Φ h₀) ρb O T) (fun ok h => ok = p x ∧ St prog w H (cact a scope C Φ h₀) ρb O T h)) ∧
    (p x = true → ∀ O, Ev prog w H A (cact a scope C Φ h₀) ρb O elt (f x))
theorem CompM.toOf {scope : Scope} {target : Expr} {ifs : List Expr} {elt : Expr} {α : Type} {xs : List α} {g : α → D} {p : α → Bool} {f : α → D} (X : CompM prog w H A a ρ scope target ifs elt xs g p f) : CompOf prog w H A a ρ scope target ifs elt (xs.map g) (fun i => (xs[i]?).elim false p) (fun i => (xs[i]?).elim .none f) where
  parts := fun i d hd => by
    rw [List.getElem?_map] at hd
    obtain ⟨x, hx, rfl⟩ := Option.map_eq_some_iff.mp hd
    simp only [hx, Option.elim_some]
    exact X.parts x (List.mem_of_getElem? hx)
theorem emitted_map {α : Type} (xs : List α) (g : α → D) (p : α → Bool) (f : α → D) : emitted (fun i => (xs[i]?).elim false p) (fun i => (xs[i]?).elim .none f) (xs.map g).length = (xs.filter p).map f := by
  rw [List.length_map]
  exact range_pick p f .none xs
theorem Ev.listcompM {elt target iter : Expr} {ifs : List Expr} {scope : Scope} {pos : Pos} {α : Type} {xs : List α} {g : α → D} (p : α → Bool) (f : α → D) (it : EvIt prog w H A a ρ O O [] target iter (xs.map g)) (X : CompM prog w H A a ρ scope target ifs elt xs g p f)
    (hsz : xs.length ≤ sizeLine) (hok : capOk scope a.env = true := by rfl) (hs : ∀ x, foldedSetIterable iter a.env x = pure x := by intro _; rfl) : Ev prog w H A a ρ O (.ListComp elt [⟨target, iter, ifs, 0⟩] scope pos) (.list ((xs.filter p).map f)) :=
  emitted_map xs g p f ▸ Ev.listcomp it X.toOf (by rw [List.length_map]; exact hsz) hok hs
theorem ex_assign_compM {x : Str} {px : Pos} {elt target iter : Expr} {ifs : List Expr} {scope : Scope} {pos spos : Pos} {α : Type} {xs : List α} {g : α → D} (p : α → Bool) (f : α → D) (it : EvIt prog w H A a ρ O O [] target iter (xs.map g)) (X : CompM prog w H A a ρ scope target ifs elt xs g p f)
    (hsz : xs.length ≤ sizeLine) (hst : Storable a x) (hok : capOk scope a.env = true := by rfl) (hs : ∀ x, foldedSetIterable iter a.env x = pure x := by intro _; rfl)
    (hsw : swapsWith (.ListComp elt [⟨target, iter, ifs, 0⟩] scope pos) (some (.Name x px)) spos.line a.env = pure true := by rfl) :
    Tr prog w A (exec (.Assign [.Name x px] (.ListComp elt [⟨target, iter, ifs, 0⟩] scope pos) spos) a.env) (St prog w H a ρ O T) (Nx (St prog w H a (upd ρ x (.val (.list ((xs.filter p).map f)))) O T)) :=
  emitted_map xs g p f ▸ ex_assign_comp it X.toOf (by rw [List.length_map]; exact hsz) hst hok hs hsw

/-- the plain case: one name, no test -/
theorem CompM.name {scope : Scope} {x : Str} {px : Pos} {elt : Expr} {α : Type} {xs : List α} {g : α → D} {f : α → D} (hx : capRho a scope ρ x = none) (hs : ∀ C Φ h₀, Storable (cact a scope C Φ h₀) x)
    (e : ∀ y ∈ xs, ∀ C Φ h₀ O, Ev prog w H A (cact a scope C Φ h₀) (upd (capRho a scope ρ) x (.val (g y))) O elt (f y)) : CompM prog w H A a ρ scope (.Name x px) [] elt xs g (fun _ => true) f where
  parts := fun y hy => ⟨_, fun z b hz => by
    unfold upd
    by_cases h : z = x
    · subst h; rw [hx] at hz; cases hz
    · rw [if_neg h]; exact hz, fun C Φ h₀ => ⟨Asg.name (hs C Φ h₀), fun O T => tests_nil, fun _ O => e y hy C Φ h₀ O⟩⟩
/-- one name, one test -/
theorem CompM.name1 {scope : Scope} {x : Str} {px : Pos} {elt c : Expr} {α : Type} {xs : List α} {g : α → D} {p : α → Bool} {f : α → D} (hx : capRho a scope ρ x = none) (hs : ∀ C Φ h₀, Storable (cact a scope C Φ h₀) x)
    (t : ∀ y ∈ xs, ∀ C Φ h₀ O, Tt prog w H A (cact a scope C Φ h₀) (upd (capRho a scope ρ) x (.val (g y))) O c (p y))
    (e : ∀ y ∈ xs, p y = true → ∀ C Φ h₀ O, Ev prog w H A (cact a scope C Φ h₀) (upd (capRho a scope ρ) x (.val (g y))) O elt (f y)) : CompM prog w H A a ρ scope (.Name x px) [c] elt xs g p f where
  parts := fun y hy => ⟨_, fun z b hz => by
    unfold upd
    by_cases h : z = x
    · subst h; rw [hx] at hz; cases hz
    · rw [if_neg h]; exact hz, fun C Φ h₀ => ⟨Asg.name (hs C Φ h₀), fun O T => tests_one (t y hy C Φ h₀ O), fun hp O => e y hy hp C Φ h₀ O⟩⟩
end

/-! words and tables -/
section
variable {prog : Program} {w : World} {H : Heap} {A : Around} {mg mb : Str → Option Value}
noncomputable def ptD (p : List Int) : D := .tup (p.map .int)
noncomputable def ptsD (pts : List (List Int)) : D := .list (pts.map ptD)
noncomputable abbrev tabsD (n : Nat) (pts : List (List Int)) : D := .list ((List.range ((firsts pts).length + 1)).map fun i => .dict (tabAt (wordsS n) pts i))
noncomputable def letS : Nat → Str
  | 0 => ⟨#[]⟩
  | 1 => ⟨#[99]⟩
  | 2 => ⟨#[98, 99]⟩
  | _ => ⟨#[97, 98, 99]⟩
structure Pts (n : Nat) (pts : List (List Int)) : Prop where
  len : pts.length ≤ 7
  all : ∀ p ∈ pts, p.length = n ∧ three p

theorem pt_cases {n : Nat} {p : List Int} (hn : n ≤ 3) (h : p.length = n) : p = [] ∨ (∃ a, p = [a]) ∨ (∃ a b, p = [a, b]) ∨ ∃ a b c, p = [a, b, c] := by
  match p, h with
  | [], _ => exact .inl rfl
  | [a], _ => exact .inr (.inl ⟨a, rfl⟩)
  | [a, b], _ => exact .inr (.inr (.inl ⟨a, b, rfl⟩))
  | [a, b, c], _ => exact .inr (.inr (.inr ⟨a, b, c, rfl⟩))
  | a :: b :: c :: d :: r, h => simp at h; omega
theorem Ev.pt0 {a : Act} {ρ : Rho} {O : List (Addr × OD)} {x : Str} {px pos cp : Pos} {k : Nat} {p : List Int} (hx : ρ x = some (.val (ptD p))) (hp : p ≠ []) (hd : (x == ("__debug__" : Str)) = false := by decide) (hn : (x == ("__classdict__" : Str)) = false := by decide) :
    Ev prog w H A a ρ O (.Subscript (.Name x px) (.Constant (.int 0) k cp) pos) (.int (p.headD 0)) :=
  Ev.sub (Ev.name hx hd hn) Ev.int HasItem.tup (P2.itemT (j := 0) (by decide) (by decide) (by
    cases p with
    | nil => exact absurd rfl hp
    | cons a r => simp [seqIndex?]) (by
    cases p with
    | nil => exact absurd rfl hp
    | cons a r => rfl))
theorem tpick_of {ds : List D} {lo hi : Option Int} {b f : Int} {n m : Nat} (hm : ds.length = m) (h1 : Builtin.Slice.sliceAdjust lo hi 1 (m : Nat) = (b, f)) (h2 : Builtin.Slice.slicePlaces b f 1 = n) : tpick ds lo hi = (List.range n).filterMap fun (k : Nat) => ds[(b + (k : Int) * 1).toNat]? := by
  unfold tpick
  rw [hm, h1, h2]
theorem tpick_tail {p : List Int} {n : Nat} (hl : p.length = n + 1) (hn3 : n < 3) : tpick (p.map D.int) (some 1) none = p.tail.map D.int := by
  rcases pt_cases hn3 hl with rfl | ⟨a, rfl⟩ | ⟨a, b, rfl⟩ | ⟨a, b, c, rfl⟩
  · simp at hl
  · rw [tpick_of (b := 1) (f := 1) (n := 0) (m := 1) rfl (by decide) (by decide)]; rfl
  · rw [tpick_of (b := 1) (f := 2) (n := 1) (m := 2) rfl (by decide) (by decide)]; rfl
  · rw [tpick_of (b := 1) (f := 3) (n := 2) (m := 3) rfl (by decide) (by decide)]; rfl
theorem Ev.ptTail {a : Act} {ρ : Rho} {O : List (Addr × OD)} {x : Str} {px pos cp sp : Pos} {k : Nat} {p : List Int} {n : Nat} (hx : ρ x = some (.val (ptD p))) (hl : p.length = n + 1) (hn3 : n < 3) (hd : (x == ("__debug__" : Str)) = false := by decide) (hn : (x == ("__classdict__" : Str)) = false := by decide) :
    Ev prog w H A a ρ O (.Subscript (.Name x px) (.Slice (some (.Constant (.int 1) k cp)) none none sp) pos) (ptD p.tail) := by
  have e := tpick_tail hl hn3
  refine Ev.cast (Ev.sub (Ev.name hx hd hn) (Ev.slice (EvP.some Ev.int) EvP.none EvP.none) HasItem.tup (P2.sliceT ?_ ?_ ?_)) (congrArg D.tup e)
  · rw [List.length_map, hl]; have : sizeLine = 16777216 := rfl; omega
  · rw [e, List.length_map, List.length_tail, hl]; have : sizeLine = 16777216 := rfl; omega
  · rw [List.length_map, hl]
    intro h
    rcases (show n = 0 ∨ n = 1 ∨ n = 2 by omega) with rfl | rfl | rfl <;> exact absurd h (by decide)

theorem puts_ones (d : Str) : ∀ ws : List Str, puts (fun i => (ws[i]?).getD d) (fun _ => 1) ws.length = ones ws := by
  intro ws
  have : ∀ n, n ≤ ws.length → puts (fun i => (ws[i]?).getD d) (fun _ => 1) n = (ws.take n).foldl (fun acc k => put acc k 1) [] := by
    intro n
    induction n with
    | zero => intro _; rfl
    | succ n ih =>
      intro h
      rw [puts_succ, ih (Nat.le_of_succ_le h), List.take_add_one, List.foldl_append, List.getElem?_eq_getElem h]; rfl
  rw [this _ (Nat.le_refl _), List.take_length]; rfl
theorem CompOfD.name {a : Act} {ρ : Rho} {scope : Scope} {x : Str} {px kp vp : Pos} {kk : Nat} {ws : List Str} (hx : capRho a scope ρ x = none) (hs : ∀ C Φ h₀, Storable (cact a scope C Φ h₀) x) (hd : (x == ("__debug__" : Str)) = false := by decide) (hn : (x == ("__classdict__" : Str)) = false := by decide) :
    CompOfD prog w H A a ρ scope (.Name x px) (.Name x kp) (.Constant (.int 1) kk vp) (ws.map .str) (fun i => (ws[i]?).getD ⟨#[]⟩) (fun _ => 1) where
  parts := fun i d hdd => by
    rw [List.getElem?_map] at hdd
    obtain ⟨y, hy, rfl⟩ := Option.map_eq_some_iff.mp hdd
    refine ⟨upd (capRho a scope ρ) x (.val (.str y)), fun z b hz => ?_, fun C Φ h₀ => ⟨Asg.name (hs C Φ h₀), fun O => Ev.name ?_ hd hn, fun O => Ev.int⟩⟩
    · unfold upd
      by_cases h : z = x
      · subst h; rw [hx] at hz; cases hz
      · rw [if_neg h]; exact hz
    · unfold upd
      rw [if_pos rfl, hy]; rfl
theorem Ev.letTail {a : Act} {ρ : Rho} {O : List (Addr × OD)} {x : Str} {px pos cp sp : Pos} {k : Nat} {n : Nat} (hx : ρ x = some (.val (.str (letS (n + 1))))) (hn3 : n < 3) (hd : (x == ("__debug__" : Str)) = false := by decide) (hn : (x == ("__classdict__" : Str)) = false := by decide) :
    Ev prog w H A a ρ O (.Subscript (.Name x px) (.Slice (some (.Constant (.int 1) k cp)) none none sp) pos) (.str (letS n)) := by
  have hsz : sizeLine = 16777216 := rfl
  rcases (show n = 0 ∨ n = 1 ∨ n = 2 by omega) with rfl | rfl | rfl
  · exact Ev.cast (Ev.sub (Ev.name hx hd hn) (Ev.slice (EvP.some Ev.int) EvP.none EvP.none) HasItem.str (P2.sliceS (by decide) (by rw [hsz]; decide))) (by rfl)
  · exact Ev.cast (Ev.sub (Ev.name hx hd hn) (Ev.slice (EvP.some Ev.int) EvP.none EvP.none) HasItem.str (P2.sliceS (by decide) (by rw [hsz]; decide))) (by rfl)
  · exact Ev.cast (Ev.sub (Ev.name hx hd hn) (Ev.slice (EvP.some Ev.int) EvP.none EvP.none) HasItem.str (P2.sliceS (by decide) (by rw [hsz]; decide))) (by rfl)
theorem Pts.part {n : Nat} {pts : List (List Int)} (hp : Pts (n + 1) pts) (v : Int) : Pts n (part v pts) := by
  refine ⟨?_, ?_⟩
  · unfold Mine.part
    rw [List.length_map]
    exact Nat.le_trans (List.length_filter_le _ _) hp.len
  · intro p hpm
    obtain ⟨q, hq, rfl⟩ := List.mem_map.mp hpm
    have := hp.all q (List.mem_filter.mp hq).1
    refine ⟨by rw [List.length_tail, this.1]; rfl, fun i hi => this.2 i (List.mem_of_mem_tail hi)⟩
theorem tabS_nodup {n : Nat} (hn : n ≤ 3) (pts : List (List Int)) : ∀ v, (wordsS n (Mine.part v pts)).Nodup := fun v => (wordsOk extOkS n hn _).nodup
theorem tabS_len {n : Nat} (hn : n < 3) (pts : List (List Int)) {i : Nat} (hi : i ≤ (firsts pts).length) : (tabAt (wordsS n) pts i).length ≤ 243 := by
  have h1 := tabAt_len (tabS_nodup (Nat.le_of_lt hn) pts) (fun v => words_len extOkS n (Nat.le_of_lt hn) (Mine.part v pts)) i hi
  have h2 : (firsts pts).length ≤ 3 := heads_len _
  have h3 : 9 ^ n ≤ 81 := by rcases (show n = 0 ∨ n = 1 ∨ n = 2 by omega) with rfl | rfl | rfl <;> decide
  have h4 : i * 9 ^ n ≤ 3 * 81 := Nat.mul_le_mul (Nat.le_trans hi h2) h3
  omega

theorem ones_small {n : Nat} (hn : n < 3) {pts : List (List Int)} : (ones (wordsS n pts)).length ≤ 81 := by
  rw [ones_eq (wordsOk extOkS n (Nat.le_of_lt hn) _).nodup, List.length_map]
  refine Nat.le_trans (words_len extOkS n (Nat.le_of_lt hn) pts) ?_
  rcases (show n = 0 ∨ n = 1 ∨ n = 2 by omega) with rfl | rfl | rfl <;> decide
theorem words_small {n : Nat} (hn : n < 3) {pts : List (List Int)} : (wordsS n pts).length ≤ 81 := by
  refine Nat.le_trans (words_len extOkS n (Nat.le_of_lt hn) pts) ?_
  rcases (show n = 0 ∨ n = 1 ∨ n = 2 by omega) with rfl | rfl | rfl <;> decide
theorem C_tables {n : Nat} (hn : n < 3) {pts : List (List Int)} (hp : Pts (n + 1) pts) (W : Wo prog w H mg mb) (r : Room A (2 * n + 2))
    (ih : ∀ A pts, Pts n pts → Room A (2 * n + 1) → PL prog w H A (fun vs => call (.ref 120) vs) [ptsD pts, .str (letS n)] (.list ((wordsS n pts).map .str))) :
    PL prog w H A (fun vs => call (.ref 115) vs) [ptsD pts, .str (letS (n + 1))] (tabsD n pts) := by
  have hne : ∀ p ∈ pts, p ≠ [] := fun p h e => by have := (hp.all p h).1; rw [e] at this; simp at this
  refine PL.fnR (f := 115) (xs := ["points", "letters"]) W r rfl rfl (by rfl) rfl rfl (bind2 fun _ _ => rfl) rfl (by decide) (by decide) (by decide) rfl rfl fun A L Φ h₀ r => ?_
  refine execs_next (ex_assign_own (EvL.cons (Ev.dict0 W) EvL.nil) (.inl rfl)) (Tr.exists fun t => ?_)
  refine execs_next (ex_forN (firsts pts) D.int (fun i => [("points", .val (ptsD pts)), ("letters", .val (.str (letS (n + 1)))), ("tables", .own t)]) (fun i => [(t, .list ((List.range (i + 1)).map fun i => .dict (tabAt (wordsS n) pts i)))])
    (EvIt.of (Ev.callB W rfl rfl rfl (by decide) (EvL.cons (Ev.callT W rfl rfl rfl (by decide) (EvL.cons (Ev.cast (Ev.listcompM (xs := pts) (g := ptD) (fun _ => true) (fun p => .int (p.headD 0)) (EvIt.of (Ev.name rfl) (Itr.list r.hh)) (CompM.name rfl (fun C Φ h₀ => .inl rfl) fun p hpp C Φ h₀ O => Ev.pt0 rfl (hne p hpp)) ?_) (?_ : _ = D.list ((pts.map fun p => p.headD 0).map .int))) EvL.nil) (PL.of1 (P1.set r.hh ?_ ?_))) EvL.nil) (PL.of1 (P1.sortedSet r.hh))) (Itr.list r.hh))
    ⟨rfl, rfl, rfl, trivial⟩ rfl (fun i d hd => Asg.nameL (.inr ⟨rfl, _, rfl, ?_⟩)) fun i v hv Oz T => ?_) ?_
  · exact sl_of hp.len
  · rw [List.filter_eq_self.mpr (fun _ _ => rfl), List.map_map]; rfl
  · intro i hi
    obtain ⟨p, hpm, rfl⟩ := List.mem_map.mp hi
    have := (hp.all p hpm).2
    cases p with
    | nil => exact absurd rfl (hne _ hpm)
    | cons a r => exact this a (.head _)
  · exact len_map_le hp.len
  · exact List.Mem.head _
  · have hi := (List.getElem?_eq_some_iff.mp hv).1
    have hnd := tabS_nodup (Nat.le_of_lt hn) pts
    have htl := tabS_len hn pts (Nat.le_of_lt hi)
    have hf3 : (firsts pts).length ≤ 3 := heads_len _
    refine execs_next (ex_assign_compM (xs := pts) (g := ptD) (fun p => p.headD 0 == v) (fun p => ptD p.tail) (EvIt.of (Ev.name rfl) (Itr.list r.hh)) (CompM.name1 rfl (fun C Φ h₀ => .inl rfl) (fun p hpp C Φ h₀ O => Tt.compare (Ev.pt0 rfl (hne p hpp)) (Ev.name rfl) P2.eqI) (fun p hpp _ C Φ h₀ O => Ev.ptTail rfl (hp.all p hpp).1 hn)) (sl_of hp.len) (.inl rfl)) ?_
    have epart : (List.map (fun p => ptD p.tail) (List.filter (fun p => p.headD 0 == v) pts)) = (part v pts).map ptD := by unfold part; rw [List.map_map]; rfl
    rw [epart]
    refine execs_next (ex_append rfl (Ev.callF W rfl rfl rfl rfl (EvL.cons (Ev.lastOwn (d := .dict (tabAt (wordsS n) pts i)) rfl (Ev.neg Ev.int) ?_) (EvL.cons (Ev.cast (Ev.dictcomp W (EvIt.of (Ev.callF W rfl rfl rfl rfl (EvL.cons (Ev.name rfl) (EvL.cons (Ev.letTail rfl hn) EvL.nil)) (ih _ _ (hp.part v) r)) (Itr.list r.hh)) (CompOfD.name rfl fun C Φ h₀ => .inl rfl) ?_) (?_ : _ = D.dict (ones (wordsS n (part v pts))))) EvL.nil)) (C_add W (r.less (Nat.le_add_left 1 _)) ?_)) ?_) (execs_nil fun g k => ?_)
    · simp
    · exact sl_map (words_small hn)
    · rw [List.length_map, puts_ones]
    · exact sl_app htl (ones_small hn)
    · rw [List.length_map]; exact sl_range (Nat.succ_le_succ (Nat.le_trans (Nat.le_of_lt hi) hf3))
    · rw [← tabAt_succ hv] at k
      have e : (List.range (i + 1 + 1)).map (fun i => D.dict (tabAt (wordsS n) pts i)) = (List.range (i + 1)).map (fun i => D.dict (tabAt (wordsS n) pts i)) ++ [D.dict (tabAt (wordsS n) pts (i + 1))] := by rw [List.range_succ, List.map_append]; rfl
      rw [← e] at k
      exact ⟨.inl rfl, _, ⟨rfl, rfl, rfl, trivial⟩, k⟩
  · exact execs_ret (ex_return_list (x := "tables") rfl)
end
end Mine

namespace Mine

section
variable {prog : Program} {w : World} {H : Heap} {A : Around} {mg mb : Str → Option Value}

theorem execs_stop {a : Act} {st : Stmt} {rest : List Stmt} {P : Heap → Prop} {Q : Flow → Heap → Prop} (x : Tr prog w A (exec st a.env) P Q) (hQ : ∀ h, ¬ Q .next h) : Tr prog w A (execs (st :: rest) a.env) P Q :=
  execs_cons x (Tr.of fun s R q _ => absurd q (hQ _)) fun _ _ _ q => q
theorem not_ret {a : Act} {ρ : Rho} {O : List (Addr × OD)} {T : List (Value × D)} {d : D} {h : Heap} : ¬ (∃ v, Flow.next = .ret v ∧ St prog w H a ρ O ((v, d) :: T) h) := fun ⟨v, e, _⟩ => by cases e

theorem range_flat {α β : Type} (g : α → List β) : ∀ xs : List α, (List.range xs.length).flatMap (fun i => (xs[i]?).elim [] g) = xs.flatMap g
  | [] => rfl
  | x :: xs => by
    have ih := range_flat g xs
    rw [List.length_cons, List.range_succ_eq_map, List.flatMap_cons, List.flatMap_map, List.flatMap_cons, ← ih]
    rfl
theorem rows_words {n : Nat} (tb : List (Str × Int)) :
    rows (fun i => (tb[i]?).elim [] fun p => (List.range p.2.toNat).map fun j => D.int (j : Nat)) (fun i j => (tb[i]?).elim .none fun p => D.str (extS n j p.1)) tb.length = (tb.flatMap fun p => (List.range p.2.toNat).map fun t => extS n t p.1).map D.str := by
  unfold rows
  rw [List.map_flatMap, ← range_flat _ tb]
  refine congrArg (fun g => List.flatMap g (List.range tb.length)) (funext fun i => ?_)
  unfold row
  cases h : tb[i]? with
  | none => simp only [h, Option.elim_none]; rfl
  | some p =>
    simp only [h, Option.elim_some, List.length_map, List.length_range, List.map_map]
    rfl

theorem tab_find {t : List (Str × Int)} (hn : (keysT t).Nodup) {p : Str × Int} (hp : p ∈ t) : t.find? (fun q => q.1 = p.1) = some (p.1, p.2) := by
  cases hf : t.find? (fun q => q.1 = p.1) with
  | none =>
    rw [List.find?_eq_none] at hf
    exact absurd (by simp) (hf p hp)
  | some q =>
    have h1 := List.find?_some hf
    simp only [decide_eq_true_eq] at h1
    have h2 := cnt_mem hn (List.mem_of_find?_eq_some hf)
    have h3 := cnt_mem hn hp
    rw [h1, h3] at h2
    rw [show q = (p.1, p.2) from Prod.ext h1 h2.symm]

theorem C_words (W : Wo prog w H mg mb) : ∀ n, n ≤ 3 → ∀ A pts, Pts n pts → Room A (2 * n + 1) → PL prog w H A (fun vs => call (.ref 120) vs) [ptsD pts, .str (letS n)] (.list ((wordsS n pts).map .str))
  | 0, _, A, pts, hp, r => by
    refine PL.fnR (f := 120) (xs := ["points", "letters"]) W r rfl rfl (by rfl) rfl rfl (bind2 fun _ _ => rfl) rfl (by decide) (by decide) (by decide) rfl rfl fun A L Φ h₀ r => ?_
    exact execs_ret (ex_if (Tt.compare (Ev.name rfl) Ev.str P2.eqS) (fun _ => execs_stop (ex_return (Ev.list (ds := [.str ⟨#[]⟩]) (EvL.cons (Ev.str) EvL.nil))) fun _ => not_ret) (fun h => nomatch h))
  | n + 1, hn, A, pts, hp, r => by
    have hslen : sizeLine = 16777216 := rfl
    have hnd := tabS_nodup (Nat.le_of_succ_le hn) pts
    have T := tabOk (wf := wordsS n) (pts := pts) (fun v _ => hnd v) _ (Nat.le_refl (firsts pts).length)
    have hsm := tab_small (pts := pts) hnd (Nat.le_refl _)
    have hky := tabS_key (n := n) (pts := pts) (Nat.le_of_succ_le hn) (Nat.le_refl _)
    have htl := tabS_len hn pts (Nat.le_refl _)
    refine PL.fnR (f := 120) (xs := ["points", "letters"]) W r rfl rfl (by rfl) rfl rfl (bind2 fun _ _ => rfl) rfl (by decide) (by decide) (by decide) rfl rfl fun A L Φ h₀ r => ?_
    refine execs_next (ex_if (b := false) (Tt.compare (Ev.name rfl) Ev.str ?_) (fun h => nomatch h) fun _ => execs_nil fun g k => ⟨rfl, k⟩) ?_
    · have : (letS (n + 1) == (⟨#[]⟩ : Str)) = false := by rcases (show n = 0 ∨ n = 1 ∨ n = 2 by omega) with rfl | rfl | rfl <;> decide
      exact this ▸ P2.eqS
    refine execs_next (ex_assign (d := .dict (tab (wordsS n) pts)) (Ev.sub (Ev.callF W rfl rfl rfl rfl (EvL.cons (Ev.name rfl) (EvL.cons (Ev.name rfl) EvL.nil)) (C_tables hn hp W r fun A pts hp r => C_words W n (Nat.le_of_succ_le hn) A pts hp r)) (Ev.neg Ev.int) HasItem.list (P2.itemLast (ds := (List.range ((firsts pts).length + 1)).map fun i => .dict (tabAt (wordsS n) pts i)) ?_ ?_)) (.inr ⟨rfl, _, rfl, ?_⟩)) ?_
    · rw [List.length_map, List.length_range]; have : (firsts pts).length ≤ 3 := heads_len _; omega
    · simp [tab]
    · exact List.Mem.head _
    refine execs_ret (ex_return (Ev.cast (Ev.listcomp2 (es := (tab (wordsS n) pts).map fun p => .str p.1) (es1 := fun i => ((tab (wordsS n) pts)[i]?).elim [] fun p => (List.range p.2.toNat).map fun j => D.int (j : Nat)) (f := fun i j => ((tab (wordsS n) pts)[i]?).elim .none fun p => D.str (extS n j p.1)) (EvIt.of (Ev.name rfl) (Itr.dict r.hh)) ⟨fun i d hd => ?_⟩ ?_) ?_))
    · rw [List.getElem?_map] at hd
      obtain ⟨p, hpx, rfl⟩ := Option.map_eq_some_iff.mp hd
      have hpm := List.mem_of_getElem? hpx
      have hp3 := hsm p hpm
      have hpk := hky p hpm
      refine ⟨upd (capRho _ _ _) "word" (.val (.str p.1)), fun z b hz => ?_, fun C Φ h₀ => ⟨Asg.name (.inl rfl), fun O => ?_⟩, fun j d1 hd1 => ?_⟩
      · unfold upd
        by_cases h : z = "word"
        · subst h; cases hz
        · rw [if_neg h]; exact hz
      · rw [hpx, Option.elim_some]
        have hc : p.2 = ((p.2.toNat : Nat) : Int) := by omega
        refine EvIt.of (d := .range 0 ((p.2.toNat : Nat) : Int)) (Ev.callT W rfl rfl rfl (by decide) (EvL.cons (Ev.sub (d := .int p.2) (Ev.name rfl) (Ev.name rfl) HasItem.dict (P2.itemD (tab_find T.nodup hpm))) EvL.nil) (hc ▸ PL.of1 P1.range)) (Itr.range r.hh (by omega))
      · rw [hpx, Option.elim_some] at hd1
        rw [List.getElem?_map] at hd1
        obtain ⟨t, ht, rfl⟩ := Option.map_eq_some_iff.mp hd1
        have hlt := (List.getElem?_eq_some_iff.mp ht).1
        rw [List.length_range] at hlt
        rw [List.getElem?_range hlt] at ht
        cases ht
        refine ⟨upd (upd (capRho _ _ _) "word" (.val (.str p.1))) "times" (.val (.int (j : Nat))), fun z b hz => ?_, fun C Φ h₀ => ⟨Asg.name (.inl rfl), fun O => ?_⟩⟩
        · by_cases h : z = "times"
          · subst h; cases hz
          · unfold upd
            rw [if_neg h]; exact hz
        · simp only [hpx, Option.elim_some]
          have hrep : (rep (one (99 - n)) j).length = j := by
            have := congrArg List.length (rep_one (99 - n) j)
            rw [List.length_replicate] at this
            exact this
          refine Ev.binop (Ev.binop (d := .str (rep (one (99 - n)) j)) (Ev.sub (d := .str (one (99 - n))) (Ev.name rfl) Ev.int HasItem.str (P2.itemS (by decide) ?_)) (Ev.name rfl) (P2.mulS (by omega) (by omega) (by show 1 ≤ 1000; decide))) (Ev.name rfl) (P2.addS ?_)
          · rcases (show n = 0 ∨ n = 1 ∨ n = 2 by omega) with rfl | rfl | rfl <;> rfl
          · rw [hrep]; omega
    · rw [List.length_map, rows_words, List.length_map]
      have : (wordsS (n + 1) pts).length ≤ 9 ^ (n + 1) := words_len extOkS (n + 1) hn pts
      have h81 : 9 ^ (n + 1) ≤ 729 := by rcases (show n = 0 ∨ n = 1 ∨ n = 2 by omega) with rfl | rfl | rfl <;> decide
      show (wordsS (n + 1) pts).length ≤ _
      omega
    · rw [List.length_map, rows_words]; rfl
end
end Mine

namespace Mine

section
variable {prog : Program} {w : World} {H : Heap} {A : Around} {mg mb : Str → Option Value}

noncomputable def RetP (prog : Program) (w : World) (H : Heap) (a : Act) (d : D) : Flow → Heap → Prop := fun f h => ∃ v ρ' O' T', f = .ret v ∧ St prog w H a ρ' O' ((v, d) :: T') h
/-- a loop that may give back -/
theorem ex_forR {α : Type} {a : Act} {ρ : Rho} {O O₁ Oe : List (Addr × OD)} {T : List (Value × D)} {target iter : Expr} {body rest : List Stmt} {pos : Pos} {d : D} (xs : List α) (g : α → D) (p : α → Bool) (r : α → D) (ρ_ : Nat → List (Str × B)) (O_ : Nat → List (Addr × OD)) {ρb : Nat → α → Rho}
    (it : EvIt prog w H A a ρ O O₁ Oe target iter (xs.map g)) (h0 : AllR ρ (ρ_ 0)) (hO : O_ 0 = O₁)
    (hasg : ∀ i x, xs[i]? = some x → Asg prog w H A a target (g x) (Mine.rl (ρ_ i)) (ρb i x))
    (step : ∀ i x, xs[i]? = some x → ∀ Oz T, Tr prog w A (execs body a.env) (St prog w H a (ρb i x) (O_ i ++ Oz) T) (fun f h => (p x = false ∧ (f = .next ∨ f = .cont) ∧ ∃ ρ', AllR ρ' (ρ_ (i + 1)) ∧ St prog w H a ρ' (O_ (i + 1) ++ Oz) T h) ∨ (p x = true ∧ RetP prog w H a (r x) f h)))
    (h1 : ∀ x, xs.find? p = some x → r x = d)
    (h2 : xs.find? p = none → ∀ T, Tr prog w A (execs rest a.env) (St prog w H a (Mine.rl (ρ_ xs.length)) (O_ xs.length ++ Oe) T) (RetP prog w H a d))
    (hs : ∀ x, foldedSetIterable iter a.env x = pure x := by intro _; rfl) :
    Tr prog w A (execs (.For target iter body [] pos :: rest) a.env) (St prog w H a ρ O T) (RetP prog w H a d) := by
  have key := ex_for (pos := pos) (T := T) (fun i => Mine.rl (ρ_ i)) (fun i => match xs[i]? with | some x => ρb i x | none => fun _ => none) O_ (fun (i : Nat) => ∀ j : Nat, j < i → ∀ x : α, xs[j]? = some x → p x = false)
    (Rv := fun _ v h => ∃ (i : Nat) (x : α), xs[i]? = some x ∧ p x = true ∧ (∀ j : Nat, j < i → ∀ x : α, xs[j]? = some x → p x = false) ∧ RetP prog w H a (r x) (.ret v) h) it h0.sub hO (fun j hj => absurd hj (Nat.not_lt_zero _)) (body := body) ?_ ?_ (fun _ _ _ _ e => e) hs
  · refine execs_cons key ?_ ?_
    · refine Tr.of fun s R hP hR => ?_
      rcases hP with ⟨_, hG, hS⟩ | ⟨v, e, _⟩
      · rw [List.length_map] at hG hS
        refine (h2 ?_ T).use hS hR
        rw [List.find?_eq_none]
        intro x hx
        obtain ⟨i, hi, e⟩ := List.mem_iff_getElem.mp hx
        rw [hG i hi x (by rw [List.getElem?_eq_getElem hi, e])]
        simp
      · cases e
    · intro f h hf hP
      rcases hP with ⟨e, _⟩ | ⟨v, rfl, i, x, hx, hpx, hb, v', ρ', O', T', e, K⟩
      · exact absurd e hf
      · cases e
        have hfind : xs.find? p = some x := by
          rw [List.find?_eq_some_iff_append]
          have hi := (List.getElem?_eq_some_iff.mp hx).1
          refine ⟨hpx, xs.take i, xs.drop (i + 1), ?_, ?_⟩
          · have e1 : xs[i] = x := (List.getElem?_eq_some_iff.mp hx).2
            have e2 := List.drop_eq_getElem_cons hi
            rw [← e1, ← e2, List.take_append_drop]
          · intro y hy
            obtain ⟨j, hj, e⟩ := List.mem_iff_getElem.mp hy
            rw [List.length_take] at hj
            rw [List.getElem_take] at e
            have hj' : j < i := by omega
            rw [hb j hj' y (by rw [List.getElem?_eq_getElem (by omega), e])]
            rfl
        rw [h1 x hfind] at K
        exact ⟨_, _, _, _, rfl, K⟩
  · intro i d hd
    rw [List.getElem?_map] at hd
    obtain ⟨x, hx, rfl⟩ := Option.map_eq_some_iff.mp hd
    simp only [hx]
    exact hasg i x hx
  · intro i d hd hG Oz T
    rw [List.getElem?_map] at hd
    obtain ⟨x, hx, rfl⟩ := Option.map_eq_some_iff.mp hd
    simp only [hx]
    refine (step i x hx Oz T).post fun f h hP => ?_
    rcases hP with ⟨hp, h1, ρ', h2, h3⟩ | ⟨hp, hr⟩
    · refine .inl ⟨h1, fun j hj y hy => ?_, h3.rl h2⟩
      rcases Nat.lt_or_eq_of_le (Nat.le_of_lt_succ hj) with hj | rfl
      · exact hG j hj y hy
      · rw [hx] at hy; cases hy; exact hp
    · obtain ⟨v, ρ', O', T', rfl, K⟩ := hr
      exact .inr ⟨v, rfl, i, x, hx, hp, hG, v, ρ', O', T', rfl, K⟩

theorem ex_ifRet {a : Act} {ρ : Rho} {O : List (Addr × OD)} {T : List (Value × D)} {test : Expr} {body rest : List Stmt} {pos : Pos} {b : Bool} {d : D} {Q : Flow → Heap → Prop} (x : Tt prog w H A a ρ O test b) (y : b = true → Tr prog w A (execs body a.env) (St prog w H a ρ O T) (RetP prog w H a d))
    (z : b = false → Tr prog w A (execs rest a.env) (St prog w H a ρ O T) Q) (hQ : ∀ f h, b = true → RetP prog w H a d f h → Q f h) : Tr prog w A (execs (.If test body [] pos :: rest) a.env) (St prog w H a ρ O T) Q := by
  refine execs_cons (M := fun f h => (b = false ∧ f = .next ∧ St prog w H a ρ O T h) ∨ (b = true ∧ RetP prog w H a d f h)) (ex_if x (fun hb => (y hb).post fun f h k => .inr ⟨hb, k⟩) (fun hb => execs_nil fun h k => .inl ⟨hb, rfl, k⟩)) ?_ ?_
  · refine Tr.of fun s R hP hR => ?_
    rcases hP with ⟨hb, _, k⟩ | ⟨_, v, _, _, _, e, _⟩
    · exact (z hb).use k hR
    · cases e
  · intro f h hf k
    rcases k with ⟨_, e, _⟩ | ⟨hb, k⟩
    · exact absurd e hf
    · exact hQ f h hb k

theorem Ev.item {a : Act} {ρ : Rho} {O : List (Addr × OD)} {x : Str} {px pos : Pos} {e : Expr} {p : List Int} {i : Int} (hx : ρ x = some (.val (ptD p))) (y : Ev prog w H A a ρ O e (.int i)) (h0 : 0 ≤ i) (hi : i.toNat < p.length) (hf : i < 2 ^ 62) (hd : (x == ("__debug__" : Str)) = false := by decide) (hn : (x == ("__classdict__" : Str)) = false := by decide)
    (hs : ∀ o j, ∃ ops, subscripted e false o j = operate ops (getItem o j) := by intro o j; exact ⟨_, rfl⟩) :
    Ev prog w H A a ρ O (.Subscript (.Name x px) e pos) (.int (p.getD i.toNat 0)) :=
  Ev.sub (Ev.name hx hd hn) y HasItem.tup (P2.itemT (j := i.toNat) (by omega) (by omega) (by
    unfold seqIndex?
    rw [List.length_map]
    have h1 : ¬ i < 0 := by omega
    simp only [h1, if_false]
    rw [if_pos]
    simp; omega) (by rw [List.getElem?_map, List.getElem?_eq_getElem hi]; simp [List.getD, List.getElem?_eq_getElem hi])) hs

noncomputable def stepOf (a b : List Int) : Int := match [2, 1, 0].find? (fun c : Int => a.getD c.toNat 0 != b.getD c.toNat 0) with | some c => -1 - c | none => 0
theorem C_step {p q : List Int} (hp : p.length = 3) (hq : q.length = 3) (W : Wo prog w H mg mb) (r : Room A 1) : PL prog w H A (fun vs => call (.ref 151) vs) [ptD p, ptD q] (.int (stepOf p q)) := by
  refine PL.fnR (f := 151) (xs := ["one", "other"]) W r rfl rfl (by rfl) rfl rfl (bind2 fun _ _ => rfl) rfl (by decide) (by decide) (by decide) rfl rfl fun A L Φ h₀ r => ?_
  refine ex_forR [2, 1, 0] D.int (fun c : Int => p.getD c.toNat 0 != q.getD c.toNat 0) (fun c => .int (-1 - c)) (fun _ => [("one", .val (ptD p)), ("other", .val (ptD q))]) (fun _ => []) (EvIt.of (Ev.tuple (EvL.cons Ev.int (EvL.cons Ev.int (EvL.cons Ev.int EvL.nil)))) (Itr.tuple r.hh)) ⟨rfl, rfl, trivial⟩ rfl (fun i c hc => Asg.nameL (.inl rfl)) (fun i c hc Oz T => ?_) (fun c hc => ?_) (fun hc T => ?_)
  · have hm := List.mem_of_getElem? hc
    have hc3 : 0 ≤ c ∧ c.toNat < 3 ∧ c < 10 := by
      simp only [List.mem_cons, List.not_mem_nil, or_false] at hm
      rcases hm with rfl | rfl | rfl <;> decide
    exact ex_ifRet (Tt.compare (Ev.item rfl (Ev.name rfl) hc3.1 (by omega) (by omega)) (Ev.item rfl (Ev.name rfl) hc3.1 (by omega) (by omega)) P2.neI) (fun hb => execs_ret (ex_return (Ev.binop (Ev.neg Ev.int) (Ev.name rfl) P2.sub))) (fun hb => execs_nil fun h k => .inl ⟨hb, .inl rfl, _, ⟨rfl, rfl, trivial⟩, k⟩) (fun f h hb k => .inr ⟨hb, k⟩)
  · unfold stepOf; rw [hc]
  · have : stepOf p q = 0 := by unfold stepOf; rw [hc]
    rw [this]
    exact execs_ret (ex_return Ev.int)
end
end Mine

namespace Mine
open Builtin Builtin.Str in
theorem split_push {prog : Program} {w : World} {A : Around} {E : Value → Shared → Prop} {s : Shared} {x y : Str} {t u : Tok} {Q : Value → Shared → Prop} (hy : (y.length == 0) = false)
    (h : ∀ l k, l.map (·.1) = Txt.split x y → Q (.ref s.heap.objs.size) { s with heap := s.heap.push { cls := .type "list", data := .seq (strValues l).toArray }, toks := k })
    (hsz : x.length + 2 ≤ sizeLine) : wpAny (model prog w) A (call (.builtin "str.split") [.str x t, .str y u]) Q E s := by
  have hn : (partsBetween x (occurrences x y 0 x.length (x.length + 1)) y.length).length ≤ sizeLine := by
    have e1 := StrLaws.occ_length_le x y 0 x.length (x.length + 1)
    rw [length_partsBetween]; omega
  cases h1 : (decide (x.length < y.length) || decide (Builtin.Str.strKind x < Builtin.Str.strKind y))
  · cases hf : (occurrences x y 0 x.length (x.length + 1)).isEmpty
    · refine call_meets F.slot_str_split (typeIs_str _ _ _) F.entry_str_split (F.args_str_split_2 _ _) (meets_str_split_sep x y t u h1 hy hf (by omega) hn) ?_
      show wants Q E _ { s with toks := _, heap := s.heap.push { cls := .type "list", data := .seq (strsFrom s.toks (partsBetween x (occurrences x y 0 x.length (x.length + 1)) y.length)).toArray } }
      rw [strsFrom_eq]
      exact h (numbered s.toks _) _ ((numbered_texts _ _).trans ((if_neg (ne_true_of_eq_false h1)).trans (if_neg (ne_true_of_eq_false hf))).symm)
    · exact call_meets F.slot_str_split (typeIs_str _ _ _) F.entry_str_split (F.args_str_split_2 _ _) (meets_str_split_not_found x y t u h1 hy hf)
        (h [(x, t)] s.toks ((if_neg (ne_true_of_eq_false h1)).trans (if_pos hf)).symm)
  · exact call_meets F.slot_str_split (typeIs_str _ _ _) F.entry_str_split (F.args_str_split_2 _ _) (meets_str_split_cannot_occur x y t u h1) (h [(x, t)] s.toks (if_pos h1).symm)

section
variable {prog : Program} {w : World} {H : Heap} {A : Around} {a a' : Act} {ρ ρ' : Rho} {O O' O₁ Oe Ow Ow' Oz : List (Addr × OD)} {T T' Tn Tw : List (Value × D)} {φ φ' : FM} {m m' : Str → Option Value} {h h' : Heap} {mg mb : Str → Option Value}

/-- a method of a str -/
theorem Ev.meth0 {pl : Sem Bool} {o : Expr} {name : Str} {ap pos : Pos} {x : Str} {id : String} {d : D} (y : Ev prog w H A a ρ O o (.str x))
    (hg : ∀ (t : Tok) (s : Shared) (Q : Value × List Value → Shared → Prop), Q (.builtin id, [.str x t]) s → wpAny (model prog w) A (getMethod (.str x t) name pl) Q (fun _ _ => False) s)
    (hf : P1 prog w H A (fun v => call (.builtin id) [v]) (.str x) d)
    (he : eval (.Call (.Attribute o name ap) [] [] pos) a.env = (do let ov ← eval o a.env; standAt ap.atName; let (f, first) ← holding [ov] (getMethod ov name pl); callWith pos f first (backTo pos (starEach [] a.env)) []) := by rfl) :
    Ev prog w H A a ρ O (.Call (.Attribute o name ap) [] [] pos) d :=
  fun T => Tr.of fun s R K hR => by
    refine MethodCall_ ((y T).use K fun v h1 tk1 q1 => ?_) he
    obtain ⟨t, rfl⟩ := q1.str (v := v) (x := x) (.head _)
    refine hg t _ _ (callWith_method0 ?_)
    exact (hf a ρ O T (.str x t)).use (s := { s with heap := h1, toks := tk1 }) q1 fun r h2 tk2 q2 => hR r h2 tk2 q2
theorem Ev.meth1 {pl : Sem Bool} {o e : Expr} {name : Str} {ap pos : Pos} {x : Str} {id : String} {d1 d : D} (y : Ev prog w H A a ρ O o (.str x)) (z : Ev prog w H A a ρ O e d1)
    (hg : ∀ (t : Tok) (s : Shared) (Q : Value × List Value → Shared → Prop), Q (.builtin id, [.str x t]) s → wpAny (model prog w) A (getMethod (.str x t) name pl) Q (fun _ _ => False) s)
    (hf : P2 prog w H A (fun v u => call (.builtin id) [v, u]) (.str x) d1 d)
    (hs : starEach [e] a.env = (false, eval e a.env) :: starEach [] a.env := by rfl)
    (he : eval (.Call (.Attribute o name ap) [e] [] pos) a.env = (do let ov ← eval o a.env; standAt ap.atName; let (f, first) ← holding [ov] (getMethod ov name pl); callWith pos f first (backTo pos (starEach [e] a.env)) []) := by rfl) :
    Ev prog w H A a ρ O (.Call (.Attribute o name ap) [e] [] pos) d :=
  fun T => Tr.of fun s R K hR => by
    refine MethodCall_ ((y T).use K fun v h1 tk1 q1 => ?_) he
    obtain ⟨t, rfl⟩ := q1.str (v := v) (x := x) (.head _)
    refine hg t _ _ (callWith_method1 (((EvL.cons z EvL.nil hs) pos _).use (s := { s with heap := h1, toks := tk1 }) q1 fun vs2 h2 tk2 q2 => ?_) hs (by rfl))
    obtain ⟨hl, q2⟩ := q2
    obtain ⟨u, rfl⟩ := len1 hl
    exact (hf a ρ O T (.str x t) u).use (s := { s with heap := h2, toks := tk2 }) q2 fun r h3 tk3 q3 => hR r h3 tk3 q3

theorem P1.upper {x : Str} (hf : Builtin.Str.tooLong (Txt.upper x).length = false) : P1 prog w H A (fun v => call (.builtin "str.upper") [v]) (.str x) (.str (Txt.upper x)) := fun a ρ O T v => Tr.of fun s R K hR => by
  obtain ⟨t, rfl⟩ := K.str (v := v) (x := x) (.head _)
  exact SC.upper hf (hR _ s.heap _ K.tail.addStr)
theorem P1.lower {x : Str} (hf : Builtin.Str.tooLong (Txt.lower x).length = false) : P1 prog w H A (fun v => call (.builtin "str.lower") [v]) (.str x) (.str (Txt.lower x)) := fun a ρ O T v => Tr.of fun s R K hR => by
  obtain ⟨t, rfl⟩ := K.str (v := v) (x := x) (.head _)
  exact SC.lower hf (hR _ s.heap _ K.tail.addStr)
theorem P2.count {x y : Str} : P2 prog w H A (fun v u => call (.builtin "str.count") [v, u]) (.str x) (.str y) (.int (Txt.count x y)) := fun a ρ O T v1 v2 => Tr.of fun s R K hR => by
  obtain ⟨t, rfl⟩ := K.str (x := x) (v := v1) (.tail _ (.head _))
  obtain ⟨u, rfl⟩ := K.str (x := y) (v := v2) (.head _)
  exact SC.count (hR _ s.heap _ (K.sub fun p hp => .tail _ (.tail _ hp)).addInt)
theorem strs_of {φ : FM} : ∀ {vs : List Value} {xs : List Str}, RdAll prog w φ vs (xs.map .str) → ∃ l : List (Str × Tok), vs = strValues l ∧ l.map (·.1) = xs
  | [], [], _ => ⟨[], rfl, rfl⟩
  | [], _ :: _, r => nomatch r
  | _ :: _, [], r => nomatch r
  | v :: vs, x :: xs, r => by
    cases r with
    | cons h r =>
      obtain ⟨t, rfl⟩ := h.inv
      · obtain ⟨l, rfl, rfl⟩ := strs_of r
        exact ⟨(x, t) :: l, rfl, rfl⟩
theorem rd_strs {φ : FM} : ∀ l : List (Str × Tok), RdAll prog w φ (strValues l) ((l.map (·.1)).map .str)
  | [] => .nil
  | p :: l => .cons (.str p.1 p.2) (rd_strs l)
theorem P2.join {x : Str} {xs : List Str} (hok : JoinOk x xs = true) : P2 prog w H A (fun v u => call (.builtin "str.join") [v, u]) (.str x) (.list (xs.map .str)) (.str (Txt.join x xs)) := fun a ρ O T v1 v2 => Tr.of fun s R K hR => by
  obtain ⟨t, rfl⟩ := K.str (x := x) (v := v1) (.tail _ (.head _))
  obtain ⟨φ, m, q⟩ := id K
  have hq := q.temps (v2, .list (xs.map .str)) (.head _)
  obtain ⟨l, vs, n, rfl, e, r⟩ := hq.inv
  · obtain ⟨ls, rfl, hx⟩ := strs_of r
    exact SC.join ⟨_, q.sub _ _ e, rfl, n, rfl⟩ hx hok fun t' k => hR _ s.heap k (K.sub fun p hp => .tail _ (.tail _ hp)).addStr
theorem P2.split {x y : Str} (hy : (y.length == 0) = false) (hsz : x.length + 2 ≤ sizeLine) : P2 prog w H A (fun v u => call (.builtin "str.split") [v, u]) (.str x) (.str y) (.list ((Txt.split x y).map .str)) := fun a ρ O T v1 v2 => Tr.of fun s R K hR => by
  obtain ⟨t, rfl⟩ := K.str (x := x) (v := v1) (.tail _ (.head _))
  obtain ⟨u, rfl⟩ := K.str (x := y) (v := v2) (.head _)
  refine split_push hy (fun l k e => hR _ _ k ?_) hsz
  rw [← e]
  exact (K.sub fun p hp => .tail _ (.tail _ hp)).alloc (Keep.push _ _) (fresh_none _) (Heap.get?_push_size _ rfl) fun φ _ hφ => .list hφ (rd_strs l)

/-- i, j = e -/
theorem ex_assign_tuple {elts : List Expr} {k : Nat} {tp pos : Pos} {value : Expr} {d : D} (e : Ev prog w H A a ρ O value d) (x : Asg prog w H A a (.Tuple elts k tp) d ρ ρ')
    (hs : swapsWithSole [.Tuple elts k tp] value pos.line a.env = pure false := by rfl) (hw : swappedStores [.Tuple elts k tp] value a.env = pure none := by rfl) :
    Tr prog w A (exec (.Assign [.Tuple elts k tp] value pos) a.env) (St prog w H a ρ O T) (Nx (St prog w H a ρ' O T)) :=
  Tr.of fun s R K hR => PyProof.Rows.Assign_Tuple ((e T).use K fun v h1 tk1 q1 => (x O T v).use (s := { s with heap := h1, toks := tk1 }) q1 fun _ h2 tk2 q2 => hR _ h2 tk2 ⟨rfl, q2⟩) hs hw
end
end Mine

namespace Mine

section
variable {prog : Program} {w : World} {H : Heap} {A : Around} {mg mb : Str → Option Value}

theorem P1.upper' {x : Str} (hf : x.length ≤ 5592405) : P1 prog w H A (fun v => call (.builtin "str.upper") [v]) (.str x) (.str (Txt.upper x)) := fun a ρ O T v => Tr.of fun s R K hR => by
  obtain ⟨t, rfl⟩ := K.str (v := v) (x := x) (.head _)
  exact SCL.upper hf fun _ => hR _ s.heap _ K.tail.addStr
theorem P1.lower' {x : Str} (hf : x.length ≤ 5592405) : P1 prog w H A (fun v => call (.builtin "str.lower") [v]) (.str x) (.str (Txt.lower x)) := fun a ρ O T v => Tr.of fun s R K hR => by
  obtain ⟨t, rfl⟩ := K.str (v := v) (x := x) (.head _)
  exact SCL.lower hf fun _ => hR _ s.heap _ K.tail.addStr
theorem joinOk_of {sep : Str} {xs : List Str} {b : Nat} (h : ∀ x ∈ xs, x.length ≤ b) (hs : xs.length * (b + sep.length) ≤ sizeLine) : JoinOk sep xs = true := by
  unfold JoinOk Builtin.Str.tooLong
  rw [StrLaws.joinTotal]
  have := sum_le (f := fun x : Str => x.length) (c := b) h
  rw [Nat.mul_add] at hs
  simp only [Bool.not_eq_true', decide_eq_false_iff_not]
  have h2 : (List.map (fun x : Str => x.length) xs).sum = (List.map (·.length) xs).sum := rfl
  omega
theorem rep_len (c n : Nat) : (rep (one c) n).length = n := by
  have := congrArg List.length (rep_one c n)
  rw [List.length_replicate] at this
  exact this
theorem app_len (x y : Str) : (x ++ y).length = x.length + y.length := by
  have := congrArg List.length (cps_append x y)
  rw [List.length_append] at this
  exact this

theorem upper_len {x : Str} : (Txt.upper x).length ≤ 3 * x.length := len_upper x

/-- a product's letters in order, with so many b's, and a dot -/
noncomputable def nameBit (i k : Nat) (t : Nat) : Str := rep (one 97) i ++ rep (one 98) t ++ rep (one 99) k ++ one 46
noncomputable def nameMid (i j k : Nat) : Str := Txt.join ⟨#[]⟩ ((List.range (j + 1)).map (nameBit i k))
noncomputable def nameOf (i j k : Nat) : Str := one 42 ++ Txt.upper (nameMid i j k) ++ ⟨#[47, 97, 97, 97, 47]⟩
theorem bit_len (i k t : Nat) : (nameBit i k t).length = i + t + k + 1 := by
  unfold nameBit
  rw [app_len, app_len, app_len, rep_len, rep_len, rep_len]; rfl
theorem join_cps (xs : List Str) : (Txt.join ⟨#[]⟩ xs).cps.toList = xs.flatMap fun x => x.cps.toList := by
  have key : ∀ (xs : List Str) (z : Array Nat), (xs.foldl (fun acc p => acc ++ (#[] : Array Nat) ++ p.cps) z).toList = z.toList ++ xs.flatMap fun x => x.cps.toList := by
    intro xs
    induction xs with
    | nil => intro z; simp
    | cons x xs ih => intro z; rw [List.foldl_cons, ih]; simp
  cases xs with
  | nil => rfl
  | cons x xs =>
    show ((xs.foldl (fun acc p => acc ++ (#[] : Array Nat) ++ p.cps) x.cps)).toList = _
    rw [key, List.flatMap_cons]
theorem join_len (xs : List Str) : (Txt.join ⟨#[]⟩ xs).length = (xs.map fun x => x.length).sum := by
  have := congrArg List.length (join_cps xs)
  rw [List.length_flatMap] at this
  exact this
theorem mid_len {i j k : Nat} (hi : i ≤ 20) (hj : j ≤ 20) (hk : k ≤ 20) : (nameMid i j k).length ≤ 1300 := by
  unfold nameMid
  rw [join_len]
  have h2 := sum_le (f := fun x : Str => x.length) (c := 61) (l := (List.range (j + 1)).map (nameBit i k)) fun x hx => by
    obtain ⟨t, ht, rfl⟩ := List.mem_map.mp hx
    rw [List.mem_range] at ht
    rw [bit_len]; omega
  rw [List.length_map, List.length_range] at h2
  have h6 : (j + 1) * 61 ≤ 21 * 61 := Nat.mul_le_mul_right _ (by omega)
  omega
theorem stCell {fd : FuncData} {f L : Addr} {Φ : FM} {h₀ : Heap} {x : Str} {c : Addr} (hk : (callEnvC fd L f).kindOf x = some .cell) (hl : (callEnvC fd L f).cells.lookup x = some c) : Storable (fact fd f L Φ h₀) x := .inr ⟨hk, c, hl, mem_of_lookup hl⟩

theorem Ev.mulC {a : Act} {ρ : Rho} {O : List (Addr × OD)} {e1 e2 : Expr} {pos : Pos} {x : Str} {n : Nat} (u : Ev prog w H A a ρ O e1 (.str x)) (v : Ev prog w H A a ρ O e2 (.int (n : Nat))) (hn : n ≤ 1000) (hx : x.length ≤ 1000) : Ev prog w H A a ρ O (.BinOp e1 .Mult e2 pos) (.str (rep x n)) :=
  Ev.binop u v (P2.mulS (by omega) (by omega) hx)
noncomputable def triD (i j k : Nat) : D := ptD [(i : Int), (j : Int), (k : Int)]
theorem C_name {i j k : Nat} (hi : i ≤ 20) (hj : j ≤ 20) (hk : k ≤ 20) (W : Wo prog w H mg mb) (r : Room A 1) : PL prog w H A (fun vs => call (.ref 156) vs) [triD i j k] (.str (nameOf i j k)) := by
  refine PL.fnR (f := 156) (xs := ["product"]) W r rfl rfl (by rfl) rfl rfl (bind1 fun _ => rfl) rfl (by decide) (by decide) (by decide) rfl rfl fun A L Φ h₀ r => ?_
  refine execs_next (ex_assign_tuple (Ev.name rfl) (Asg.tuple r.hh (AsgL.cons (Asg.name (stCell rfl rfl)) (AsgL.cons (Asg.name (.inl rfl)) (AsgL.cons (Asg.name (stCell rfl rfl)) AsgL.nil))) rfl rfl)) ?_
  refine execs_next (ex_assign (Ev.meth1 Ev.str (Ev.cast (Ev.listcompM (xs := List.range (j + 1)) (g := fun t => D.int (t : Nat)) (fun _ => true) (fun t => .str (nameBit i k t)) (EvIt.of (d := .range 0 ((j + 1 : Nat) : Int)) (Ev.callT W rfl rfl rfl (by decide) (EvL.cons (Ev.binop (Ev.name rfl) Ev.int P2.add) EvL.nil) (PL.of1 P1.range)) (Itr.range r.hh (int_lt (Nat.succ_le_succ hj)))) (CompM.name rfl (fun C Φ h₀ => .inl rfl) fun t ht C Φ h₀ O => ?_) ?_) (?_ : _ = D.list (((List.range (j + 1)).map (nameBit i k)).map .str))) (fun t s Q h => GM.join h) (P2.join (joinOk_of (b := 61) ?_ ?_))) (.inl rfl)) ?_
  · have ht20 : t ≤ 20 := Nat.le_trans (Nat.le_of_lt_succ (List.mem_range.mp ht)) hj
    refine Ev.binop (d1 := .str (rep (one 97) i ++ rep (one 98) t ++ rep (one 99) k)) (d2 := .str (one 46)) ?_ Ev.str (P2.addS ?_)
    · refine Ev.binop (d1 := .str (rep (one 97) i ++ rep (one 98) t)) (d2 := .str (rep (one 99) k)) ?_ ?_ (P2.addS ?_)
      · refine Ev.binop (d1 := .str (rep (one 97) i)) (d2 := .str (rep (one 98) t)) ?_ ?_ (P2.addS ?_)
        · exact Ev.mulC (x := one 97) (n := i) Ev.str (Ev.name rfl) (le_of hi) (by decide)
        · exact Ev.mulC (x := one 98) (n := t) Ev.str (Ev.name rfl) (le_of ht20) (by decide)
        · rw [rep_len, rep_len]; exact Nat.le_trans (Nat.add_le_add hi ht20) (by decide)
      · exact Ev.mulC (x := one 99) (n := k) Ev.str (Ev.name rfl) (le_of hk) (by decide)
      · rw [app_len, rep_len, rep_len, rep_len]; exact Nat.le_trans (Nat.add_le_add (Nat.add_le_add hi ht20) hk) (by decide)
    · rw [app_len, app_len, rep_len, rep_len, rep_len]; exact Nat.le_trans (Nat.add_le_add (Nat.add_le_add (Nat.add_le_add hi ht20) hk) (Nat.le_refl 1)) (by decide)
  · exact sl_range (Nat.succ_le_succ hj)
  · rw [List.filter_eq_self.mpr (fun _ _ => rfl), List.map_map]; rfl
  · intro x hx
    obtain ⟨t, ht, rfl⟩ := List.mem_map.mp hx
    rw [bit_len]; exact Nat.add_le_add (Nat.add_le_add (Nat.add_le_add hi (Nat.le_trans (Nat.le_of_lt_succ (List.mem_range.mp ht)) hj)) hk) (Nat.le_refl 1)
  · rw [List.length_map, List.length_range]
    have h6 : (j + 1) * (61 + 0) ≤ 21 * 61 := Nat.mul_le_mul_right _ (Nat.succ_le_succ hj)
    clear hi hj hk
    have hsl : sizeLine = 16777216 := rfl
    have : (Str.ofString "").length = 0 := rfl
    rw [this]; omega
  · have hm := mid_len hi hj hk
    have hu := Mine.upper_len (x := nameMid i j k)
    refine execs_ret (ex_return (Ev.binop (d1 := .str (one 42 ++ Txt.upper (nameMid i j k))) (d2 := .str ⟨#[47, 97, 97, 97, 47]⟩) (Ev.binop (d1 := .str (one 42)) (d2 := .str (Txt.upper (nameMid i j k))) Ev.str (Ev.meth0 (Ev.name rfl) (fun t s Q h => GM.upper h) (P1.upper' (x := nameMid i j k) (le_of hm))) (P2.addS ?_)) Ev.str (P2.addS ?_)))
    · exact Nat.le_trans (Nat.add_le_add (Nat.le_refl 1) (Nat.le_trans hu (Nat.mul_le_mul_left 3 hm))) (by decide)
    · rw [app_len]; exact Nat.le_trans (Nat.add_le_add (Nat.add_le_add (Nat.le_refl 1) (Nat.le_trans hu (Nat.mul_le_mul_left 3 hm))) (Nat.le_refl 5)) (by decide)
end
end Mine

namespace Mine

section
variable {prog : Program} {w : World} {H : Heap} {A : Around} {mg mb : Str → Option Value}

noncomputable def unInt : D → Int | .int i => i | _ => 0
noncomputable def unPt : D → List Int | .tup ds => ds.map unInt | _ => []
noncomputable def unStr : D → Str | .str x => x | _ => ⟨#[]⟩
theorem unPt_pt (p : List Int) : unPt (ptD p) = p := by
  show (p.map D.int).map unInt = p
  rw [List.map_map]
  exact List.map_id p
theorem any_pt (acc : List (List Int)) (p : List Int) : ((acc.map ptD).any fun y => unPt y == p) = acc.contains p := by
  rw [List.any_map, List.contains_eq_any_beq]
  congr 1
  funext q
  show (unPt (ptD q) == p) = (p == q)
  rw [unPt_pt, Bool.beq_comm]
theorem any_str (acc : List Str) (p : Str) : ((acc.map D.str).any fun y => unStr y == p) = acc.contains p := by
  rw [List.any_map, List.contains_eq_any_beq]
  congr 1
  funext q
  show (q == p) = (p == q)
  rw [Bool.beq_comm]
theorem eq_pt (acc : List (List Int)) (p : List Int) : ∀ y ∈ acc.map ptD, EqD y (ptD p) (unPt y == p) := by
  intro y hy
  obtain ⟨q, _, rfl⟩ := List.mem_map.mp hy
  rw [unPt_pt]
  exact EqD.tup
theorem eq_str (acc : List Str) (p : Str) : ∀ y ∈ acc.map D.str, EqD y (.str p) (unStr y == p) := by
  intro y hy
  obtain ⟨q, _, rfl⟩ := List.mem_map.mp hy
  exact EqD.str q p

theorem Tt.notInOwn {a : Act} {ρ : Rho} {O : List (Addr × OD)} {x : Str} {px pos : Pos} {l : Expr} {n : Addr} {d : D} {ds : List D} (e : D → Bool) (hx : ρ x = some (.own n)) (y : Ev prog w H A a ρ ((n, .list ds) :: O) l d) (he : ∀ y ∈ ds, EqD y d (e y)) (hroom : A.units + 2 < cLine)
    (hd : (x == ("__debug__" : Str)) = false := by decide) (hc : (x == ("__classdict__" : Str)) = false := by decide)
    (hm : behindInMarks .NotIn (.Name x px) = false := by with_unfolding_all rfl) : Tt prog w H A a ρ ((n, .list ds) :: O) (.Compare l [.NotIn] [.Name x px] pos) (!ds.any e) :=
  fun T => Tr.of fun s R q h => wpAny_isTrue_Compare1 ((y T).use q fun v1 _ _ q1 => (ev_own hx hd hc).use q1 fun v2 _ _ q2 => by
    obtain ⟨rfl, q2⟩ := q2
    exact (notIn_own e he hroom).use q2 fun v h' tk q3 => by
      obtain ⟨rfl, q3⟩ := q3
      exact wpAny_truthy_bool (h _ h' tk ⟨rfl, q3⟩)) hm
theorem Room.u2 {n : Nat} (r : Room A n) : A.units + 2 < cLine := by have := r.u; omega
theorem Room.u64 {n : Nat} (r : Room A n) : A.units + 64 < cLine := by have := r.u; omega

/-! products -/
noncomputable def addNew (acc : List (List Int)) (p : List Int) : List (List Int) := if acc.contains p then acc else acc ++ [p]
noncomputable def grow (i j k : Int) : List (List Int) := [[i + 1, j + 1, k + 1], [i, j, k + 1], [i, j + 1, k], [i + 1, j, k], [i, j, k]]
noncomputable def cA (w : Str) : Int := Txt.count w (one 97)
noncomputable def cB (w : Str) : Int := Txt.count w (one 98)
noncomputable def cC (w : Str) : Int := Txt.count w (one 99)
noncomputable def prods1 (ws : List Str) (n : Nat) : List (List Int) := (ws.take n).foldl (fun acc w => (grow (cA w) (cB w) (cC w)).foldl addNew acc) []
noncomputable def prods (ws : List Str) : List (List Int) := prods1 ws ws.length
theorem prods1_succ {ws : List Str} {n : Nat} {x : Str} (h : ws[n]? = some x) : prods1 ws (n + 1) = (grow (cA x) (cB x) (cC x)).foldl addNew (prods1 ws n) := by
  unfold prods1
  rw [List.take_add_one, h, List.foldl_append]; rfl
theorem addNew_not {acc : List (List Int)} {p : List Int} (h : acc.contains p = false) : addNew acc p = acc ++ [p] := by unfold addNew; rw [h]; rfl
theorem addNew_in {acc : List (List Int)} {p : List Int} (h : acc.contains p = true) : addNew acc p = acc := by unfold addNew; rw [h]; rfl
theorem addNew_len (acc : List (List Int)) (p : List Int) : (addNew acc p).length ≤ acc.length + 1 := by
  unfold addNew
  split
  · omega
  · simp
theorem fold_addNew_len : ∀ (ps acc : List (List Int)), (ps.foldl addNew acc).length ≤ acc.length + ps.length
  | [], acc => by simp
  | p :: ps, acc => by
    rw [List.foldl_cons, List.length_cons]
    have := fold_addNew_len ps (addNew acc p)
    have := addNew_len acc p
    omega
theorem prods1_len (ws : List Str) : ∀ n, (prods1 ws n).length ≤ 5 * n
  | 0 => by simp [prods1]
  | n + 1 => by
    have ih := prods1_len ws n
    cases h : ws[n]? with
    | none =>
      have := List.getElem?_eq_none_iff.mp h
      have e : prods1 ws (n + 1) = prods1 ws n := by unfold prods1; rw [List.take_of_length_le (by omega), List.take_of_length_le this]
      rw [e]; omega
    | some x =>
      rw [prods1_succ h]
      have := fold_addNew_len (grow (cA x) (cB x) (cC x)) (prods1 ws n)
      have e : (grow (cA x) (cB x) (cC x)).length = 5 := rfl
      omega

theorem sz3 {a b c : D} : [a, b, c].length ≤ sizeLine := by show 3 ≤ 2 ^ 24; decide
theorem sz5 {a b c d e : D} : [a, b, c, d, e].length ≤ sizeLine := by show 5 ≤ 2 ^ 24; decide
theorem C_products {ws : List Str} (hw : ws.length ≤ 1000) (W : Wo prog w H mg mb) (r : Room A 1) : PL prog w H A (fun vs => call (.ref 137) vs) [.list (ws.map .str)] (ptsD (prods ws)) := by
  refine PL.fnR (f := 137) (xs := ["words"]) W r rfl rfl (by rfl) rfl rfl (bind1 fun _ => rfl) rfl (by decide) (by decide) (by decide) rfl rfl fun A L Φ h₀ r => ?_
  refine execs_next (ex_assign_own EvL.nil (.inl rfl)) (Tr.exists fun n => ?_)
  refine execs_next (ex_forN ws (fun w => .tup [.int (cA w), .int (cB w), .int (cC w)]) (fun i => [("words", .val (.list (ws.map .str))), ("products", .own n)]) (fun i => [(n, .list ((prods1 ws i).map ptD))])
    (EvIt.of (Ev.cast (Ev.listcompM (xs := ws) (g := D.str) (fun _ => true) (fun w => .tup [.int (cA w), .int (cB w), .int (cC w)]) (EvIt.of (Ev.name rfl) (Itr.list r.hh)) (CompM.name rfl (fun C Φ h₀ => .inl rfl) fun y hy C Φ h₀ O => Ev.tuple (EvL.cons (Ev.meth1 (Ev.name rfl) Ev.str (fun t s Q h => GM.count h) P2.count) (EvL.cons (Ev.meth1 (Ev.name rfl) Ev.str (fun t s Q h => GM.count h) P2.count) (EvL.cons (Ev.meth1 (Ev.name rfl) Ev.str (fun t s Q h => GM.count h) P2.count) EvL.nil))) sz3) (sl_of hw)) (congrArg D.list (congrArg (List.map _) (List.filter_eq_self.mpr fun _ _ => rfl)))) (Itr.list r.hh))
    ⟨rfl, rfl, trivial⟩ rfl (fun i d hd => Asg.tuple r.hh (AsgL.cons (Asg.nameL (.inl rfl)) (AsgL.cons (Asg.nameL (.inl rfl)) (AsgL.cons (Asg.nameL (.inl rfl)) AsgL.nil))) rfl rfl) fun i x hx Oz T => ?_) ?_
  · have hi := (List.getElem?_eq_some_iff.mp hx).1
    have hl5 : (prods1 ws i).length ≤ 5000 := Nat.le_trans (prods1_len ws i) (Nat.mul_le_mul_left 5 (Nat.le_trans (Nat.le_of_lt hi) hw))
    refine execs_next (ex_forN (grow (cA x) (cB x) (cC x)) ptD (fun _ => [("words", .val (.list (ws.map .str))), ("products", .own n)]) (fun m => (n, .list ((((grow (cA x) (cB x) (cC x)).take m).foldl addNew (prods1 ws i)).map ptD)) :: Oz)
      (EvIt.of (Ev.list (EvL.cons (Ev.tuple (EvL.cons (Ev.binop (Ev.name rfl) Ev.int P2.add) (EvL.cons (Ev.binop (Ev.name rfl) Ev.int P2.add) (EvL.cons (Ev.binop (Ev.name rfl) Ev.int P2.add) EvL.nil))) sz3)
        (EvL.cons (Ev.tuple (EvL.cons (Ev.name rfl) (EvL.cons (Ev.name rfl) (EvL.cons (Ev.binop (Ev.name rfl) Ev.int P2.add) EvL.nil))) sz3)
        (EvL.cons (Ev.tuple (EvL.cons (Ev.name rfl) (EvL.cons (Ev.binop (Ev.name rfl) Ev.int P2.add) (EvL.cons (Ev.name rfl) EvL.nil))) sz3)
        (EvL.cons (Ev.tuple (EvL.cons (Ev.binop (Ev.name rfl) Ev.int P2.add) (EvL.cons (Ev.name rfl) (EvL.cons (Ev.name rfl) EvL.nil))) sz3)
        (EvL.cons (Ev.tuple (EvL.cons (Ev.name rfl) (EvL.cons (Ev.name rfl) (EvL.cons (Ev.name rfl) EvL.nil))) sz3) EvL.nil))))) sz5) (Itr.list r.hh))
      ⟨rfl, rfl, trivial⟩ rfl (fun m d hd => Asg.nameL (.inl rfl)) fun m p hp Oz' T' => ?_) (execs_nil fun g k => ?_)
    · have hm := (List.getElem?_eq_some_iff.mp hp).1
      have hlt : ((((grow (cA x) (cB x) (cC x)).take m).foldl addNew (prods1 ws i))).length ≤ 5005 := Nat.le_trans (fold_addNew_len ((grow (cA x) (cB x) (cC x)).take m) (prods1 ws i)) (Nat.add_le_add hl5 (List.length_take_le' m (grow (cA x) (cB x) (cC x))))
      have e : ((grow (cA x) (cB x) (cC x)).take (m + 1)).foldl addNew (prods1 ws i) = addNew (((grow (cA x) (cB x) (cC x)).take m).foldl addNew (prods1 ws i)) p := by
        rw [List.take_add_one, hp, List.foldl_append]; rfl
      refine execs_next (P' := St prog w H _ (rl [("words", .val (.list (ws.map .str))), ("products", .own n)]) ((n, .list ((((grow (cA x) (cB x) (cC x)).take (m + 1)).foldl addNew (prods1 ws i)).map ptD)) :: (Oz ++ Oz')) T') ?_ (execs_nil fun g k => ⟨.inl rfl, _, ⟨rfl, rfl, trivial⟩, k⟩)
      rw [e]
      refine ex_if (Tt.notInOwn (fun y => unPt y == p) rfl (Ev.name rfl) (eq_pt _ p) r.u2) (fun hb => ?_) (fun hb => ?_)
      · rw [any_pt] at hb
        have e2 := addNew_not (by simpa using hb)
        rw [e2, List.map_append]
        exact execs_next (ex_append rfl (Ev.name rfl) (sl_map hlt)) (execs_nil fun g k => ⟨rfl, k.toRl _ ⟨rfl, rfl, trivial⟩⟩)
      · rw [any_pt] at hb
        have e2 := addNew_in (by simpa using hb)
        rw [e2]
        exact execs_nil fun g k => ⟨rfl, k.toRl _ ⟨rfl, rfl, trivial⟩⟩
    · rw [prods1_succ hx]
      rw [List.append_nil] at k
      exact ⟨.inl rfl, _, ⟨rfl, rfl, trivial⟩, k⟩
  · exact execs_ret (ex_return_list (x := "products") rfl)
end
end Mine

namespace Mine

section
variable {prog : Program} {w : World} {H : Heap} {A : Around} {mg mb : Str → Option Value}

noncomputable def sortC (x : Str) : List Nat := x.cps.toList.mergeSort (fun a b => decide (a ≤ b))
theorem rising_pair : ∀ (cs : List Nat) (c : Nat), risingS (one c) (cs.map one) = true → (c :: cs).Pairwise (· ≤ ·)
  | [], c, _ => by simp
  | d :: cs, c, h => by
    have h' : (!Spec.ltCps (one d).cps.toList (one c).cps.toList && risingS (one d) (cs.map one)) = true := h
    rw [Bool.and_eq_true] at h'
    have h1 := rising_pair cs d h'.2
    have h2 : c ≤ d := by
      have : Spec.ltCps (one d).cps.toList (one c).cps.toList = (decide (d < c) || (d == c && false)) := rfl
      rw [this] at h'
      have := h'.1
      simp at this
      omega
    refine List.pairwise_cons.mpr ⟨fun e he => ?_, h1⟩
    rcases List.mem_cons.mp he with rfl | he
    · exact h2
    · exact Nat.le_trans h2 ((List.pairwise_cons.mp h1).1 e he)
theorem sorted_chars {ss : List Str} {x : Str} (hp : ss.Perm (x.cps.toList.map one)) (hs : sortedS ss = true) : ss = (sortC x).map one := by
  have hform : ∀ y ∈ ss, ∃ c, y = one c := fun y hy => by
    obtain ⟨c, _, e⟩ := List.mem_map.mp (hp.mem_iff.mp hy)
    exact ⟨c, e.symm⟩
  have hcs : ∃ cs : List Nat, ss = cs.map one := by
    clear hp hs
    induction ss with
    | nil => exact ⟨[], rfl⟩
    | cons y ss ih =>
      obtain ⟨c, rfl⟩ := hform y (.head _)
      obtain ⟨cs, rfl⟩ := ih fun z hz => hform z (.tail _ hz)
      exact ⟨c :: cs, rfl⟩
  obtain ⟨cs, rfl⟩ := hcs
  have hinj : ∀ l : List Nat, (l.map one).map (fun s : Str => s.cps.toList.headD 0) = l := fun l => by
    rw [List.map_map]; exact List.map_id l
  have hp' : cs.Perm x.cps.toList := by
    have := hp.map (fun s : Str => s.cps.toList.headD 0)
    rwa [hinj, hinj] at this
  have hpw : cs.Pairwise (· ≤ ·) := by
    cases cs with
    | nil => simp
    | cons c cs => exact rising_pair cs c hs
  have : cs = sortC x := by
    refine List.Perm.eq_of_pairwise (le := fun a b : Nat => a ≤ b) (fun a b _ _ h1 h2 => Nat.le_antisymm h1 h2) hpw ?_ (hp'.trans (List.mergeSort_perm _ _).symm)
    have := List.pairwise_mergeSort (le := fun a b : Nat => decide (a ≤ b)) (fun a b c h1 h2 => by simp only [decide_eq_true_eq] at *; omega) (fun a b => by simp only [Bool.or_eq_true, decide_eq_true_eq]; omega) x.cps.toList
    exact this.imp fun h => by simpa using h
  rw [this]

theorem strsAre_rd {φ : FM} {vs : List Value} {ss : List Str} (h : StrsAre vs ss) : RdAll prog w φ vs (ss.map .str) := by
  induction h with
  | nil => exact .nil
  | cons y t h ih => exact .cons (.str y t) ih
theorem strsAre_of : ∀ {vs : List Value} {ss : List Str}, vs.length = ss.length → (∀ (j : Nat) (v : Value), vs[j]? = some v → ∃ (y : Str) (t : Tok), ss[j]? = some y ∧ v = Value.str y t) → StrsAre vs ss
  | [], [], _, _ => .nil
  | [], _ :: _, h, _ => by simp at h
  | _ :: _, [], h, _ => by simp at h
  | v :: vs, y :: ss, h, k => by
    obtain ⟨z, t, h1, rfl⟩ := k 0 v rfl
    cases h1
    exact .cons y t (strsAre_of (by simpa using h) fun j v hv => k (j + 1) v hv)

theorem P1.sortedStr {x : Str} (hh : A.handled = none) (hx : x.length < 64) : P1 prog w H A (fun v => call (.builtin "sorted") [v]) (.str x) (.list (((sortC x).map one).map .str)) := fun a ρ O T v => Tr.of fun s R K hR => by
  have hsl : sizeLine = 16777216 := rfl
  have hxl : x.cps.size < 64 := hx
  obtain ⟨t, rfl⟩ := K.str (v := v) (x := x) (.head _)
  refine Calls.call_function_entry kind_sorted plain_sorted entry_sorted (args_sorted1 _) ?_
  unfold Builtin.«sorted»
  refine wpAny_bind (m := checkCount "sorted" 1 1 _) (wpAny_pure ?_)
  refine wpAny_bind (wpAny_collect_str (A := A.in1) hh x t (fun s' acc hk hg hd ho hit => ?_) (by omega))
  obtain ⟨h', g', d', tk', os'⟩ := s'
  simp only at hk hg hd ho
  subst hg hd ho
  have hS : StrsAre acc.toList (x.cps.toList.map one) := by
    refine strsAre_of ?_ fun j v hv => ?_
    · rw [Array.length_toList, hit.1, List.length_map, Array.length_toList]
    · obtain ⟨c, u, hc, rfl⟩ := hit.2 j v (by rw [← Array.getElem?_toList]; exact hv)
      refine ⟨one c, u, ?_, rfl⟩
      rw [List.getElem?_map, Array.getElem?_toList, hc]; rfl
  have hlen : acc.toList.length < 64 := by rw [Array.length_toList, hit.1]; exact hxl
  refine wpAny_bind (wpAny_newList ?_ (by omega))
  have hoL : (h'.push (seqObj "list" acc.toList.toArray 0)).get? h'.objs.size = some (seqObj "list" acc.toList.toArray 0) := Heap.get?_push_size _ rfl
  refine wpAny_bind (wpAny_holding (wpAny_call_entry slot_list_sort ⟨_, hoL, rfl⟩ entry_list_sort (list_sort_treeK strKind_oneLt hoL hS.keysOf (fun v₁ v₂ rest e => keyKind_strs (by rw [← e]; exact hS)) hlen fun st' a1 a2 => ⟨_, rfl, ?_⟩) (args_list_sort _)))
  refine wpAny_pure ⟨_, rfl, ?_⟩
  obtain ⟨ss', b1, b2, b3⟩ := sorted_out_str hS a1 a2
  obtain ⟨e, he⟩ := sortedHeap_at (vs := acc.toList) (out := (arrOf st').map (·.2)) hoL
  have hss := sorted_chars b2 b3
  subst hss
  have hKeep : Keep s.heap (sortedHeap (h'.push (seqObj "list" acc.toList.toArray 0)) h'.objs.size acc.toList ((arrOf st').map (·.2))) := fun b o eb => by
    have h1 := hk b o eb
    have h2 := Heap.lt_size h1
    rw [sortedHeap_old (Nat.ne_of_lt h2) (by rw [Heap.size_push]; exact Nat.lt_succ_of_lt h2)]
    exact Heap.get?_push_of_some _ h1
  refine hR _ _ _ (K.tail.alloc (n := h'.objs.size) hKeep ?_ he fun φ _ hφ => ?_)
  · cases e' : s.heap.get? h'.objs.size with
    | none => rfl
    | some o => exact absurd (Heap.lt_size (hk _ o e')) (Nat.lt_irrefl _)
  · refine .list (vs := ((arrOf st').map (·.2)).toList) (n := e) (by rw [hφ]) (strsAre_rd b1)
end
end Mine

namespace Mine

section
variable {prog : Program} {w : World} {H : Heap} {A : Around} {mg mb : Str → Option Value}

theorem Tt.and2 {a : Act} {ρ : Rho} {O : List (Addr × OD)} {x y : Expr} {pos : Pos} {b c : Bool} (u : Tt prog w H A a ρ O x b) (v : b = true → Tt prog w H A a ρ O y c) : Tt prog w H A a ρ O (.BoolOp .And [x, y] pos) (b && c) :=
  fun T => Tr.of fun s R K hR => wpAny_isTrue_BoolOp (wpAny_allTrue_And_cons ((u T).use K fun b' h1 tk1 q1 => by
    obtain ⟨rfl, q1⟩ := q1
    cases b' with
    | false => exact hR _ h1 tk1 ⟨rfl, q1⟩
    | true =>
      simp only [if_true]
      refine wpAny_allTrue_And_cons ((v rfl T).use (s := { s with heap := h1, toks := tk1 }) q1 fun c' h2 tk2 q2 => ?_)
      obtain ⟨rfl, q2⟩ := q2
      cases c' with
      | false => exact hR _ h2 tk2 ⟨rfl, q2⟩
      | true =>
        simp only [if_true]
        exact wpAny_allTrue_And_nil (hR _ h2 tk2 ⟨rfl, q2⟩)))
theorem Tt.or2 {a : Act} {ρ : Rho} {O : List (Addr × OD)} {x y : Expr} {pos : Pos} {b c : Bool} (u : Tt prog w H A a ρ O x b) (v : b = false → Tt prog w H A a ρ O y c) : Tt prog w H A a ρ O (.BoolOp .Or [x, y] pos) (b || c) :=
  fun T => Tr.of fun s R K hR => wpAny_isTrue_BoolOp (wpAny_allTrue_Or_cons ((u T).use K fun b' h1 tk1 q1 => by
    obtain ⟨rfl, q1⟩ := q1
    cases b' with
    | true => exact hR _ h1 tk1 ⟨rfl, q1⟩
    | false =>
      simp only [Bool.false_eq_true, if_false]
      refine wpAny_allTrue_Or_cons ((v rfl T).use (s := { s with heap := h1, toks := tk1 }) q1 fun c' h2 tk2 q2 => ?_)
      obtain ⟨rfl, q2⟩ := q2
      cases c' with
      | true => exact hR _ h2 tk2 ⟨rfl, q2⟩
      | false =>
        simp only [Bool.false_eq_true, if_false]
        exact wpAny_allTrue_Or_nil (hR _ h2 tk2 ⟨rfl, q2⟩)))
theorem Tt.ofInt {a : Act} {ρ : Rho} {O : List (Addr × OD)} {e : Expr} {i : Int} (x : Ev prog w H A a ρ O e (.int i)) (he : ∀ whole, isTrue e a.env whole = (do let v ← whole; standAt e.pos; holding [v] (truthy v)) := by intro _; rfl) : Tt prog w H A a ρ O e (i != 0) :=
  fun T => Tr.of fun s R K hR => wpAny_isTrue_value ((x T).use K fun v h tk q => by
    obtain ⟨t, rfl⟩ := q.int (v := v) (i := i) (.head _)
    exact PySem.P.truthy_int (hR _ h tk ⟨rfl, q.tail⟩)) (he _)
theorem CompM.two {a : Act} {ρ : Rho} {scope : Scope} {x y : Str} {px py tp : Pos} {k : Nat} {elt : Expr} {α : Type} {xs : List α} {g1 g2 : α → D} {f : α → D} (hh : A.handled = none) (hx : capRho a scope ρ x = none) (hy : capRho a scope ρ y = none) (hs : ∀ C Φ h₀, Storable (cact a scope C Φ h₀) x) (hs' : ∀ C Φ h₀, Storable (cact a scope C Φ h₀) y)
    (e : ∀ z ∈ xs, ∀ C Φ h₀ O, Ev prog w H A (cact a scope C Φ h₀) (upd (upd (capRho a scope ρ) x (.val (g1 z))) y (.val (g2 z))) O elt (f z)) : CompM prog w H A a ρ scope (.Tuple [.Name x px, .Name y py] k tp) [] elt xs (fun z => .tupg [g1 z, g2 z]) (fun _ => true) f where
  parts := fun z hz => ⟨_, fun u b hu => by
    unfold upd
    by_cases h : u = y
    · subst h; rw [hy] at hu; cases hu
    · rw [if_neg h]
      by_cases h : u = x
      · subst h; rw [hx] at hu; cases hu
      · rw [if_neg h]; exact hu, fun C Φ h₀ => ⟨Asg.tupg hh (AsgL.cons (Asg.name (hs C Φ h₀)) (AsgL.cons (Asg.name (hs' C Φ h₀)) AsgL.nil)) rfl rfl, fun O T => tests_nil, fun _ O => e z hz C Φ h₀ O⟩⟩
theorem EvIt.cast {a : Act} {ρ : Rho} {O O₁ Oe : List (Addr × OD)} {target iter : Expr} {es es' : List D} (x : EvIt prog w H A a ρ O O₁ Oe target iter es) (h : es = es') : EvIt prog w H A a ρ O O₁ Oe target iter es' := h ▸ x
theorem enumD_map {α : Type} (g : α → D) (xs : List α) : enumD (xs.map g) = xs.zipIdx.map fun p => .tupg [.int (p.2 : Nat), g p.1] := by
  apply List.ext_getElem?
  intro i
  rw [List.getElem?_map, List.getElem?_zipIdx]
  unfold enumD
  rw [List.getElem?_zipWith, List.length_map, List.getElem?_map]
  cases h : xs[i]? with
  | none => cases (List.range xs.length)[i]? <;> rfl
  | some x =>
    have := (List.getElem?_eq_some_iff.mp h).1
    rw [List.getElem?_range this]
    simp
/-- an own list named in ρ is a datum from here on -/
theorem Tr.freeze {α : Type} {a : Act} {ρ : Rho} {O : List (Addr × OD)} {T : List (Value × D)} {t : Sem α} {Q : α → Heap → Prop} {x : Str} {n : Addr} {ds : List D} (hx : ρ x = some (.own n)) (h : Tr prog w A t (St prog w H a (upd ρ x (.val (.list ds))) O T) Q) : Tr prog w A t (St prog w H a ρ ((n, .list ds) :: O) T) Q :=
  h.pre fun g k => (k.freeze.rebind hx (.head _)).tail

/-! agents -/
noncomputable def lng (w : Str) (c : Nat) : Str := Txt.join ⟨#[]⟩ ((sortC (w ++ one c)).map one)
noncomputable def addB (ws acc : List Str) (l : Str) : List Str := if !ws.contains l && !acc.contains l then acc ++ [l] else acc
noncomputable def addW (ws : List Str) (acc : List Str) (w : Str) : List Str := [97, 98, 99].foldl (fun acc c => addB ws acc (lng w c)) acc
noncomputable def bord1 (ws : List Str) (n : Nat) : List Str := (ws.take n).foldl (addW ws) []
noncomputable def bord (ws : List Str) : List Str := bord1 ws ws.length
noncomputable def agents (ws : List Str) : List Str := (bord ws).zipIdx.map fun p => if p.2 % 2 = 1 then Txt.upper p.1 else p.1
theorem addB_len (ws acc : List Str) (l : Str) : (addB ws acc l).length ≤ acc.length + 1 := by
  unfold addB
  split <;> simp
theorem bord1_succ {ws : List Str} {n : Nat} {x : Str} (h : ws[n]? = some x) : bord1 ws (n + 1) = addW ws (bord1 ws n) x := by
  unfold bord1
  rw [List.take_add_one, h, List.foldl_append]; rfl
theorem foldB_len (ws : List Str) (x : Str) : ∀ (cs : List Nat) (acc : List Str), (cs.foldl (fun acc c => addB ws acc (lng x c)) acc).length ≤ acc.length + cs.length
  | [], acc => by simp
  | c :: cs, acc => by
    rw [List.foldl_cons, List.length_cons]
    have := foldB_len ws x cs (addB ws acc (lng x c))
    have := addB_len ws acc (lng x c)
    omega
theorem bord1_len (ws : List Str) : ∀ n, (bord1 ws n).length ≤ 3 * n
  | 0 => by simp [bord1]
  | n + 1 => by
    have ih := bord1_len ws n
    cases h : ws[n]? with
    | none =>
      have := List.getElem?_eq_none_iff.mp h
      have e : bord1 ws (n + 1) = bord1 ws n := by unfold bord1; rw [List.take_of_length_le (by omega), List.take_of_length_le this]
      rw [e]; omega
    | some x =>
      rw [bord1_succ h]
      have := foldB_len ws x [97, 98, 99] (bord1 ws n)
      unfold addW
      have e : ([97, 98, 99] : List Nat).length = 3 := rfl
      omega
theorem sortC_len (x : Str) : (sortC x).length = x.length := (List.mergeSort_perm _ _).length_eq
theorem lng_len (x : Str) (c : Nat) : (lng x c).length = x.length + 1 := by
  unfold lng
  rw [join_len, List.map_map]
  have : ((fun x : Str => x.length) ∘ one) = fun _ => 1 := rfl
  rw [this]
  have h2 : ∀ l : List Nat, (l.map fun _ => 1).sum = l.length := by
    intro l
    induction l with
    | nil => rfl
    | cons a l ih => rw [List.map_cons, List.sum_cons, ih, List.length_cons]; omega
  rw [h2, sortC_len, app_len]; rfl
theorem mem_addB {ws acc : List Str} {l x : Str} (h : x ∈ addB ws acc l) : x ∈ acc ∨ x = l := by
  unfold addB at h
  split at h
  · rcases List.mem_append.mp h with h | h
    · exact .inl h
    · exact .inr (List.mem_singleton.mp h)
  · exact .inl h
theorem mem_foldB {ws : List Str} {x y : Str} : ∀ {cs : List Nat} {acc : List Str}, y ∈ cs.foldl (fun acc c => addB ws acc (lng x c)) acc → y ∈ acc ∨ ∃ c ∈ cs, y = lng x c
  | [], acc, h => .inl h
  | c :: cs, acc, h => by
    rw [List.foldl_cons] at h
    rcases mem_foldB h with h | ⟨d, hd, e⟩
    · rcases mem_addB h with h | h
      · exact .inl h
      · exact .inr ⟨c, .head _, h⟩
    · exact .inr ⟨d, .tail _ hd, e⟩
theorem mem_bord1 {ws : List Str} {y : Str} : ∀ {n : Nat}, y ∈ bord1 ws n → ∃ x ∈ ws, ∃ c ∈ [97, 98, 99], y = lng x c
  | 0, h => by simp [bord1] at h
  | n + 1, h => by
    cases hx : ws[n]? with
    | none =>
      have := List.getElem?_eq_none_iff.mp hx
      have e : bord1 ws (n + 1) = bord1 ws n := by unfold bord1; rw [List.take_of_length_le (by omega), List.take_of_length_le this]
      rw [e] at h
      exact mem_bord1 h
    | some x =>
      rw [bord1_succ hx] at h
      rcases mem_foldB h with h | ⟨c, hc, e⟩
      · exact mem_bord1 h
      · exact ⟨x, List.mem_of_getElem? hx, c, hc, e⟩

theorem C_agents {ws : List Str} (hw : ws.length ≤ 1000) (hx : ∀ x ∈ ws, x.length ≤ 20) (W : Wo prog w H mg mb) (r : Room A 1) : PL prog w H A (fun vs => call (.ref 125) vs) [.list (ws.map .str)] (.list ((agents ws).map .str)) := by
  refine PL.fnR (f := 125) (xs := ["words"]) W r rfl rfl (by rfl) rfl rfl (bind1 fun _ => rfl) rfl (by decide) (by decide) (by decide) rfl rfl fun A L Φ h₀ r => ?_
  refine execs_next (ex_assign_own EvL.nil (.inl rfl)) (Tr.exists fun n => ?_)
  refine execs_next (ex_forN ws D.str (fun i => [("words", .val (.list (ws.map .str))), ("border", .own n)]) (fun i => [(n, .list ((bord1 ws i).map .str))])
    (EvIt.of (Ev.name rfl) (Itr.list r.hh)) ⟨rfl, rfl, trivial⟩ rfl (fun i d hd => Asg.nameL (.inl rfl)) fun i x hxi Oz T => ?_) ?_
  · have hi := (List.getElem?_eq_some_iff.mp hxi).1
    have hl3 : (bord1 ws i).length ≤ 3000 := Nat.le_trans (bord1_len ws i) (Nat.mul_le_mul_left 3 (Nat.le_trans (Nat.le_of_lt hi) hw))
    have hx20 := hx x (List.mem_of_getElem? hxi)
    refine execs_next (ex_forN [97, 98, 99] (fun c => D.str (one c)) (fun _ => [("words", .val (.list (ws.map .str))), ("border", .own n), ("word", .val (.str x))]) (fun m => (n, .list ((([97, 98, 99].take m).foldl (fun acc c => addB ws acc (lng x c)) (bord1 ws i)).map .str)) :: Oz)
      (EvIt.of Ev.str (Itr.str r.hh (by decide +kernel))) ⟨rfl, rfl, rfl, trivial⟩ rfl (fun m d hd => Asg.nameL (.inl rfl)) fun m c hc Oz' T' => ?_) (execs_nil fun g k => ?_)
    · have hm := (List.getElem?_eq_some_iff.mp hc).1
      have hlt : (((([97, 98, 99] : List Nat).take m).foldl (fun acc c => addB ws acc (lng x c)) (bord1 ws i))).length ≤ 3003 := Nat.le_trans (foldB_len ws x (([97, 98, 99] : List Nat).take m) (bord1 ws i)) (Nat.add_le_add hl3 (List.length_take_le' m ([97, 98, 99] : List Nat)))
      have e : (([97, 98, 99] : List Nat).take (m + 1)).foldl (fun acc c => addB ws acc (lng x c)) (bord1 ws i) = addB ws ((([97, 98, 99] : List Nat).take m).foldl (fun acc c => addB ws acc (lng x c)) (bord1 ws i)) (lng x c) := by
        rw [List.take_add_one, hc, List.foldl_append]; rfl
      generalize (([97, 98, 99] : List Nat).take m).foldl (fun acc c => addB ws acc (lng x c)) (bord1 ws i) = acc at hlt e
      refine execs_next (ex_assign (d := .str (lng x c)) (Ev.meth1 Ev.str (Ev.callB W rfl rfl rfl (by decide) (EvL.cons (Ev.binop (Ev.name rfl) (Ev.name rfl) (P2.addS ?_)) EvL.nil) (PL.of1 (P1.sortedStr r.hh ?_))) (fun t s Q h => GM.join h) (P2.join (joinOk_of (b := 1) ?_ ?_))) (.inl rfl)) ?_
      · exact Nat.le_trans (Nat.add_le_add hx20 (Nat.le_refl 1)) (by decide)
      · rw [app_len]; exact Nat.lt_of_le_of_lt (Nat.add_le_add hx20 (Nat.le_refl 1)) (by decide)
      · intro y hy
        obtain ⟨c, _, rfl⟩ := List.mem_map.mp hy
        exact Nat.le_refl _
      · rw [List.length_map, sortC_len, app_len]
        exact Nat.le_trans (Nat.mul_le_mul_right 1 (Nat.add_le_add hx20 (Nat.le_refl 1))) (by decide)
      refine execs_next (P' := St prog w H _ (rl [("words", .val (.list (ws.map .str))), ("border", .own n), ("word", .val (.str x))]) ((n, .list (((([97, 98, 99] : List Nat).take (m + 1)).foldl (fun acc c => addB ws acc (lng x c)) (bord1 ws i)).map .str)) :: (Oz ++ Oz')) T') ?_ (execs_nil fun g k => ⟨.inl rfl, _, ⟨rfl, rfl, rfl, trivial⟩, k⟩)
      rw [e]
      refine ex_if (Tt.and2 (Tt.compare (Ev.name rfl) (Ev.name rfl) (P2.notInL (fun y => unStr y == lng x c) (eq_str _ _) r.u2)) (fun _ => Tt.notInOwn (fun y => unStr y == lng x c) rfl (Ev.name rfl) (eq_str _ _) r.u2)) (fun hb => ?_) (fun hb => ?_)
      · rw [any_str, any_str] at hb
        have e2 : addB ws acc (lng x c) = acc ++ [lng x c] := by unfold addB; rw [if_pos hb]
        rw [e2, List.map_append]
        exact execs_next (ex_append rfl (Ev.name rfl) (sl_map hlt)) (execs_nil fun g k => ⟨rfl, k.toRl _ ⟨rfl, rfl, rfl, trivial⟩⟩)
      · rw [any_str, any_str] at hb
        have e2 : addB ws acc (lng x c) = acc := by unfold addB; rw [if_neg (by rw [hb]; simp)]
        rw [e2]
        exact execs_nil fun g k => ⟨rfl, k.toRl _ ⟨rfl, rfl, rfl, trivial⟩⟩
    · rw [List.append_nil] at k
      have e : (([97, 98, 99] : List Nat).take ([97, 98, 99] : List Nat).length).foldl (fun acc c => addB ws acc (lng x c)) (bord1 ws i) = bord1 ws (i + 1) := by rw [bord1_succ hxi]; rfl
      rw [e] at k
      exact ⟨.inl rfl, _, ⟨rfl, rfl, trivial⟩, k⟩
  · have hbl := bord1_len ws ws.length
    refine Tr.freeze (x := "border") rfl ?_
    refine execs_ret (ex_return (Ev.cast (Ev.listcompM (xs := (bord ws).zipIdx) (g := fun p => .tupg [.int (p.2 : Nat), .str p.1]) (fun _ => true) (fun p => .str (if p.2 % 2 = 1 then Txt.upper p.1 else p.1)) (EvIt.cast (EvIt.enumerate r.hh W rfl rfl (Ev.name rfl)) (enumD_map D.str _)) (CompM.two r.hh rfl rfl (fun C Φ h₀ => .inl rfl) (fun C Φ h₀ => .inl rfl) fun p hp C Φ h₀ O => ?_) ?_) ?_))
    · obtain ⟨y, hy⟩ : ∃ y, p.1 ∈ bord ws := ⟨(), by
        have := List.mem_zipIdx' hp
        exact List.mem_of_getElem (this.2.symm)⟩
      obtain ⟨z, hz, c, _, e⟩ := mem_bord1 hy
      have hlen : p.1.length ≤ 21 := by rw [e, lng_len]; exact Nat.add_le_add (hx z hz) (Nat.le_refl 1)
      have key : D.str (if p.2 % 2 = 1 then Txt.upper p.1 else p.1) = if (((p.2 : Nat) : Int).fmod 2 != 0) = true then D.str (Txt.upper p.1) else D.str p.1 := by
        have : (((p.2 : Nat) : Int).fmod 2) = ((p.2 % 2 : Nat) : Int) := by rw [Int.fmod_eq_emod_of_nonneg _ (by decide)]; rfl
        rw [this]
        rcases Nat.mod_two_eq_zero_or_one p.2 with h | h <;> rw [h] <;> rfl
      rw [key]
      exact Ev.ifexp (Tt.ofInt (Ev.binop (Ev.name rfl) Ev.int (P2.mod (by decide)))) (fun _ => Ev.meth0 (Ev.name rfl) (fun t s Q h => GM.upper h) (P1.upper' (x := p.1) (le_of hlen))) (fun _ => Ev.name rfl)
    · rw [List.length_zipIdx]; exact sl_of (Nat.le_trans hbl (Nat.mul_le_mul_left 3 hw))
    · rw [List.filter_eq_self.mpr (fun _ _ => rfl)]
      unfold agents
      rw [List.map_map]; rfl
end
end Mine

namespace Mine

/-! elimination in whole numbers -/
abbrev Piv := Nat × List Int
noncomputable def red1 (vals : List Int) (p : Piv) : List Int := (vals.zip p.2).map fun q => p.2.getD p.1 0 * q.1 - vals.getD p.1 0 * q.2
noncomputable def reduce (ps : List Piv) (vals : List Int) : List Int := ps.foldl red1 vals
noncomputable def spotsOf (vals : List Int) : List Nat := (List.range vals.length).filter fun s => vals.getD s 0 != 0
noncomputable def stepE (st : List Piv × List Bool) (vals : List Int) : List Piv × List Bool :=
  let v := reduce st.1 vals
  (match spotsOf v with | [] => st.1 | s :: _ => st.1 ++ [(s, v)], st.2 ++ [decide (spotsOf v = [])])
noncomputable def elim (vss : List (List Int)) : List Piv × List Bool := vss.foldl stepE ([], [])

structure PivOk (n : Nat) (ps : List Piv) : Prop where
  len : ∀ p ∈ ps, p.2.length = n
  lt : ∀ p ∈ ps, p.1 < n
  nz : ∀ p ∈ ps, p.2.getD p.1 0 ≠ 0
  ahead : ps.Pairwise fun p q => q.2.getD p.1 0 = 0

theorem red1_len {n : Nat} {vals : List Int} {p : Piv} (hv : vals.length = n) (hp : p.2.length = n) : (red1 vals p).length = n := by
  unfold red1
  rw [List.length_map, List.length_zip, hv, hp, Nat.min_self]
theorem red1_get {n : Nat} {vals : List Int} {p : Piv} (hv : vals.length = n) (hp : p.2.length = n) (s : Nat) : (red1 vals p).getD s 0 = p.2.getD p.1 0 * vals.getD s 0 - vals.getD p.1 0 * p.2.getD s 0 := by
  unfold red1
  by_cases hs : s < n
  · have h1 : vals[s]? = some (vals.getD s 0) := by rw [List.getD_eq_getElem?_getD, List.getElem?_eq_getElem (by omega)]; rfl
    have h2 : p.2[s]? = some (p.2.getD s 0) := by rw [List.getD_eq_getElem?_getD, List.getElem?_eq_getElem (by omega)]; rfl
    have h3 : (vals.zip p.2)[s]? = some (vals.getD s 0, p.2.getD s 0) := by rw [List.getElem?_zip_eq_some]; exact ⟨h1, h2⟩
    rw [List.getD_eq_getElem?_getD, List.getElem?_map, h3]; rfl
  · have h1 : vals.getD s 0 = 0 := by rw [List.getD_eq_getElem?_getD, List.getElem?_eq_none (by omega)]; rfl
    have h2 : p.2.getD s 0 = 0 := by rw [List.getD_eq_getElem?_getD, List.getElem?_eq_none (by omega)]; rfl
    rw [h1, h2, List.getD_eq_getElem?_getD, List.getElem?_eq_none (by rw [List.length_map, List.length_zip]; omega)]; simp
theorem reduce_len {n : Nat} : ∀ {ps : List Piv} {vals : List Int}, (∀ p ∈ ps, p.2.length = n) → vals.length = n → (reduce ps vals).length = n
  | [], _, _, hv => hv
  | p :: ps, vals, hp, hv => reduce_len (ps := ps) (vals := red1 vals p) (fun q hq => hp q (.tail _ hq)) (red1_len hv (hp p (.head _)))
/-- where a pivot stands, what is reduced is nought -/
theorem reduce_keep {n : Nat} {s : Nat} : ∀ {ps : List Piv} {vals : List Int}, (∀ p ∈ ps, p.2.length = n) → vals.length = n → (∀ p ∈ ps, p.2.getD s 0 = 0) → vals.getD s 0 = 0 → (reduce ps vals).getD s 0 = 0
  | [], _, _, _, _, h => h
  | p :: ps, vals, hp, hv, hz, h => by
    refine reduce_keep (ps := ps) (vals := red1 vals p) (fun q hq => hp q (.tail _ hq)) (red1_len hv (hp p (.head _))) (fun q hq => hz q (.tail _ hq)) ?_
    rw [red1_get hv (hp p (.head _)), h, hz p (.head _)]; simp
theorem reduce_zero {n : Nat} : ∀ {ps : List Piv} {vals : List Int}, PivOk n ps → vals.length = n → ∀ p ∈ ps, (reduce ps vals).getD p.1 0 = 0
  | [], _, _, _, p, hp => nomatch hp
  | q :: ps, vals, P, hv, p, hp => by
    have hql := P.len q (.head _)
    have hpw := List.pairwise_cons.mp P.ahead
    have hv' := red1_len hv hql
    rcases List.mem_cons.mp hp with rfl | hp
    · refine reduce_keep (ps := ps) (vals := red1 vals p) (fun r hr => P.len r (.tail _ hr)) hv' (fun r hr => hpw.1 r hr) ?_
      rw [red1_get hv hql, Int.mul_comm, Int.sub_self]
    · exact reduce_zero (ps := ps) (vals := red1 vals q) ⟨fun r hr => P.len r (.tail _ hr), fun r hr => P.lt r (.tail _ hr), fun r hr => P.nz r (.tail _ hr), hpw.2⟩ hv' p hp
theorem mem_spots {vals : List Int} {s : Nat} : s ∈ spotsOf vals ↔ s < vals.length ∧ vals.getD s 0 ≠ 0 := by
  unfold spotsOf
  rw [List.mem_filter, List.mem_range]
  simp
theorem spots_nil {vals : List Int} : spotsOf vals = [] ↔ ∀ s, vals.getD s 0 = 0 := by
  constructor
  · intro h s
    cases hc : decide (vals.getD s 0 = 0) with
    | true => exact of_decide_eq_true hc
    | false =>
      have hne := of_decide_eq_false hc
      by_cases hs : s < vals.length
      · have := mem_spots.mpr ⟨hs, hne⟩
        rw [h] at this; cases this
      · exact absurd (by rw [List.getD_eq_getElem?_getD, List.getElem?_eq_none (by omega)]; rfl) hne
  · intro h
    cases hsp : spotsOf vals with
    | nil => rfl
    | cons s r =>
      have : s ∈ spotsOf vals := by rw [hsp]; exact .head _
      exact absurd (h s) (mem_spots.mp this).2
theorem pivOk_add {n : Nat} {ps : List Piv} {vals : List Int} {s : Nat} {r : List Nat} (P : PivOk n ps) (hv : vals.length = n) (hs : spotsOf (reduce ps vals) = s :: r) : PivOk n (ps ++ [(s, reduce ps vals)]) := by
  have hm : s ∈ spotsOf (reduce ps vals) := by rw [hs]; exact .head _
  have hm' := mem_spots.mp hm
  have hl := reduce_len P.len hv
  refine ⟨?_, ?_, ?_, ?_⟩
  · intro p hp
    rcases List.mem_append.mp hp with hp | hp
    · exact P.len p hp
    · rw [List.mem_singleton.mp hp]; exact hl
  · intro p hp
    rcases List.mem_append.mp hp with hp | hp
    · exact P.lt p hp
    · rw [List.mem_singleton.mp hp]; rw [hl] at hm'; exact hm'.1
  · intro p hp
    rcases List.mem_append.mp hp with hp | hp
    · exact P.nz p hp
    · rw [List.mem_singleton.mp hp]; exact hm'.2
  · rw [List.pairwise_append]
    refine ⟨P.ahead, by simp, fun p hp q hq => ?_⟩
    rw [List.mem_singleton.mp hq]
    exact reduce_zero P hv p hp
theorem pivOk_len {n : Nat} {ps : List Piv} (P : PivOk n ps) : ps.length ≤ n := by
  have hnd : (ps.map (·.1)).Nodup := by
    refine List.pairwise_map.mpr ?_
    have : ps.Pairwise fun p q => q.2.getD p.1 0 = 0 ∧ q.2.getD q.1 0 ≠ 0 := by
      refine List.Pairwise.imp_of_mem (fun {p q} hp hq h => ⟨h, P.nz q hq⟩) P.ahead
    exact this.imp fun {p q} h (e : p.1 = q.1) => h.2 (by rw [← e]; exact h.1)
  have hsub : ps.map (·.1) ⊆ List.range n := fun s hs => by
    obtain ⟨p, hp, rfl⟩ := List.mem_map.mp hs
    exact List.mem_range.mpr (P.lt p hp)
  have := List.Nodup.length_le_of_subset hnd hsub
  rwa [List.length_map, List.length_range] at this

/-! bounds -/
noncomputable def top : Nat → Int
  | 0 => 1
  | r + 1 => 2 * top r * top r
noncomputable def Small (b : Int) (v : List Int) : Prop := ∀ s, -b ≤ v.getD s 0 ∧ v.getD s 0 ≤ b
theorem top_pos : ∀ r, 1 ≤ top r
  | 0 => Int.le_refl _
  | r + 1 => by
    have := top_pos r
    show 1 ≤ 2 * top r * top r
    have h1 : 1 * 1 ≤ top r * top r := Int.mul_le_mul this this (by decide) (by omega)
    rw [Int.mul_assoc]; omega
theorem mul_small {a b x y : Int} (ha : -a ≤ x ∧ x ≤ a) (hb : -b ≤ y ∧ y ≤ b) (h0 : 0 ≤ a) (h1 : 0 ≤ b) : -(a * b) ≤ x * y ∧ x * y ≤ a * b := by
  have h : (x * y).natAbs ≤ (a * b).natAbs := by
    rw [Int.natAbs_mul, Int.natAbs_mul]
    exact Nat.mul_le_mul (by omega) (by omega)
  have h2 : 0 ≤ a * b := Int.mul_nonneg h0 h1
  omega
theorem red1_small {n r : Nat} {vals : List Int} {p : Piv} (hv : vals.length = n) (hp : p.2.length = n) (h1 : Small (top r) vals) (h2 : Small (top r) p.2) : Small (top (r + 1)) (red1 vals p) := by
  intro s
  rw [red1_get hv hp]
  have t := top_pos r
  have a := mul_small (h2 p.1) (h1 s) (by omega) (by omega)
  have b := mul_small (h1 p.1) (h2 s) (by omega) (by omega)
  have e : top (r + 1) = 2 * (top r * top r) := by show 2 * top r * top r = _; rw [Int.mul_assoc]
  rw [e]
  omega
/-- the r-th pivot is small for its place -/
noncomputable def SmallP (ps : List Piv) : Prop := ∀ r p, ps[r]? = some p → Small (top r) p.2
theorem reduce_small {n : Nat} {ps : List Piv} {vals : List Int} (hp : ∀ p ∈ ps, p.2.length = n) (hv : vals.length = n) (h : SmallP ps) (h0 : Small (top 0) vals) : ∀ r, r ≤ ps.length → Small (top r) (reduce (ps.take r) vals) ∧ (reduce (ps.take r) vals).length = n
  | 0, _ => ⟨h0, hv⟩
  | r + 1, hr => by
    have ih := reduce_small hp hv h h0 r (Nat.le_of_succ_le hr)
    have e : ps[r]? = some ps[r] := List.getElem?_eq_getElem hr
    have hm : ps[r] ∈ ps := List.getElem_mem _
    have : reduce (ps.take (r + 1)) vals = red1 (reduce (ps.take r) vals) ps[r] := by
      unfold reduce
      rw [List.take_add_one, e, List.foldl_append]; rfl
    rw [this]
    exact ⟨red1_small ih.2 (hp _ hm) ih.1 (h r _ e), red1_len ih.2 (hp _ hm)⟩
structure ElimOk (n : Nat) (ps : List Piv) : Prop where
  ok : PivOk n ps
  small : SmallP ps
theorem elimOk_step {n : Nat} {st : List Piv × List Bool} {vals : List Int} (h : ElimOk n st.1) (hv : vals.length = n) (h0 : Small (top 0) vals) : ElimOk n (stepE st vals).1 := by
  unfold stepE
  dsimp only
  split
  · exact h
  · rename_i s r hs
    refine ⟨pivOk_add h.ok hv hs, fun k p hk => ?_⟩
    rw [List.getElem?_append] at hk
    split at hk
    · exact h.small k p hk
    · rename_i hlt
      have hk' : k = st.1.length := by
        have := (List.getElem?_eq_some_iff.mp hk).1
        simp at this
        omega
      subst hk'
      simp at hk
      subst hk
      have := (reduce_small h.ok.len hv h.small h0 st.1.length (Nat.le_refl _)).1
      rwa [List.take_length] at this
end Mine

namespace Mine

section
variable {prog : Program} {w : World} {H : Heap} {A : Around} {a : Act} {ρ : Rho} {O Oz : List (Addr × OD)} {T : List (Value × D)} {mg mb : Str → Option Value}

theorem Tr.perm {α : Type} {O O' : List (Addr × OD)} {t : Sem α} {Q : α → Heap → Prop} (hp : O'.Perm O) (h : Tr prog w A t (St prog w H a ρ O' T) Q) : Tr prog w A t (St prog w H a ρ O T) Q := h.pre fun g k => k.perm hp
theorem raws_two {h : Heap} {x y : Addr} : raws h [x, y] = [(x, .raw (atD h x)), (y, .raw (atD h y))] := rfl

/-- an own list as the source of a loop that does not touch it -/
theorem Src.ofOwn {target : Expr} {I l : Addr} {vs : List Value} {k : Nat} {ds : List D} (hh : A.handled = none) (hne : l ≠ I) (hlen : vs.length = ds.length) :
    Src prog w H A target I ds (fun i Ow T => ∃ hi : Heap, hi.IsListIter I l i ∧ hi.get? l = some (listOf vs.toArray k) ∧ i ≤ ds.length ∧ Ow = raws hi [I, l] ∧ T = vs.zip ds) [(l, .list ds)] where
  next := by
    rintro a ρ O T i Ow Tw s ⟨hi, hit, hol, hle, rfl, rfl⟩ K
    obtain ⟨oI, hoI, hcI, hdI⟩ := id hit
    have hTk : Trk hi [I, l] [I, l] (vs.zip ds) := ⟨fun b hb => by
      rcases List.mem_cons.mp hb with rfl | hb
      · exact ⟨_, hoI⟩
      · rw [List.mem_singleton] at hb; subst hb; exact ⟨_, hol⟩, fun b hb hw => absurd hb hw⟩
    have here := hTk.here K
    have hl : s.heap.get? l = some (listOf vs.toArray k) := here l (.tail _ (.head _)) _ hol
    have hL : s.heap.IsList l vs.toArray := ⟨_, hl, rfl, k, rfl⟩
    have W := Walks.list (prog := prog) (w := w) hh I l hne vs.toArray
    have hst : s.heap.IsListIter I l i ∧ s.heap.IsList l vs.toArray := ⟨hit.at fun o e => here I (.head _) o e, hL⟩
    have hsz : vs.toArray.size = ds.length := by rw [List.size_toArray, hlen]
    by_cases hlt : i < ds.length
    · have hd : ds[i]? = some ds[i] := List.getElem?_eq_getElem hlt
      refine W.item i s _ _ (hsz ▸ hlt) hst fun v h' tk hPv hst' hk => ?_
      rw [hd]
      obtain ⟨oI', hoI', hcI', hdI'⟩ := id hst'.1
      refine ⟨v, rfl, lotg_plain (s := { s with heap := h', toks := tk }) hoI' hcI' hdI' (by decide) ?_⟩
      have hl' : h'.get? l = some (listOf vs.toArray k) := hk l _ (by rw [List.mem_singleton]; exact hne) hl
      refine ⟨h', tk, raws h' [I, l], _, rfl, ⟨h', hst'.1, hl', hlt, rfl, rfl⟩, ?_⟩
      refine St.moved (Tn := [(v, ds[i])]) K (fun _ => none) (fun _ _ e => nomatch e) (fun b o hb e => hk b o (fun hb' => hb (by rw [List.mem_singleton] at hb'; rw [hb']; exact .head _)) e) (fun b hb => ?_) (fun φ' hT _ p hp => ?_)
      · rcases List.mem_cons.mp hb with rfl | hb
        · exact ⟨_, hoI'⟩
        · rw [List.mem_singleton] at hb; subst hb; exact ⟨_, hl'⟩
      · rw [List.mem_singleton] at hp
        subst hp
        have hP' : vs[i]? = some v := by simpa using hPv
        exact hT _ (List.mem_append_left _ (List.mem_of_getElem? (i := i) (by rw [List.getElem?_zip_eq_some]; exact ⟨hP', hd⟩)))
    · have hie : i = ds.length := Nat.le_antisymm hle (Nat.le_of_not_lt hlt)
      have hd : ds[i]? = none := List.getElem?_eq_none (by omega)
      have hst2 : s.heap.IsListIter I l vs.toArray.size ∧ s.heap.IsList l vs.toArray := by rw [hsz, ← hie]; exact hst
      refine W.done s _ _ hst2 fun h' tk hk => ?_
      rw [hd]
      refine ⟨rfl, h', tk, rfl, ?_⟩
      have K1 : St prog w H a ρ ((l, .raw (atD hi l)) :: (I, .raw (atD hi I)) :: O) (vs.zip ds ++ T) s.heap := K.perm (List.Perm.swap _ _ _)
      have K2 : St prog w H a ρ ((l, .list ds) :: (I, .raw (atD hi I)) :: O) (vs.zip ds ++ T) s.heap := St.set K1 ⟨rfl, fun _ _ => rfl⟩ hl fun φ hT _ => ⟨vs, k, rfl, RdAll.of_pairs hlen hT⟩
      have K3 : St prog w H a ρ ((I, .raw (atD hi I)) :: (l, .list ds) :: O) (vs.zip ds ++ T) s.heap := K2.perm (List.Perm.swap _ _ _)
      exact (St.lose K3 fun b o hb e => hk b o (by rw [List.mem_singleton]; exact hb) e).sub fun p hp => List.mem_append_right _ hp
  self := by
    rintro a ρ O T i Ow Tw s ⟨hi, hit, hol, hle, rfl, rfl⟩ K
    obtain ⟨oI, hoI, hcI, hdI⟩ := id hit
    have hTk : Trk hi [I, l] [I, l] (vs.zip ds) := ⟨fun b hb => by
      rcases List.mem_cons.mp hb with rfl | hb
      · exact ⟨_, hoI⟩
      · rw [List.mem_singleton] at hb; subst hb; exact ⟨_, hol⟩, fun b hb hw => absurd hb hw⟩
    have here := hTk.here K
    exact wpAny_pyIter_listiter (hit.at fun o e => here I (.head _) o e) ⟨rfl, rfl⟩

theorem EvIt.own {target : Expr} {x : Str} {pos : Pos} {l : Addr} {ds : List D} (hh : A.handled = none) (hx : ρ x = some (.own l)) (hd : (x == ("__debug__" : Str)) = false := by decide) (hn : (x == ("__classdict__" : Str)) = false := by decide) :
    EvIt prog w H A a ρ ((l, .list ds) :: O) O [(l, .list ds)] target (.Name x pos) ds := fun T s K =>
  (ev_own hx hd hn).use K fun v h1 tk1 q1 => by
    obtain ⟨rfl, q1⟩ := q1
    refine ⟨⟨h1, tk1, rfl⟩, ?_⟩
    obtain ⟨φ, m, q⟩ := id q1
    obtain ⟨o, ho, vs, k, rfl, r⟩ := q.own _ (.head _)
    have hL : h1.IsList l vs.toArray := ⟨_, ho, rfl, k, rfl⟩
    have hlt := Heap.lt_size ho
    refine wpAny_pyIter_list hL ⟨_, tk1, rfl, h1.objs.size, _, _, _, rfl, Src.ofOwn (vs := vs) (k := k) hh (Nat.ne_of_lt hlt) r.length, ⟨h1.push { cls := .type "list_iterator", data := .fields #[.ref l, .int 0 0] }, ⟨_, Heap.get?_push_size _ rfl, rfl, rfl⟩, Heap.get?_push_of_some _ ho, Nat.zero_le _, rfl, rfl⟩, ?_⟩
    have K1 : St prog w H a ρ ((l, .raw (listOf vs.toArray k)) :: O) (vs.zip ds ++ T) h1 := by
      have K0 : St prog w H a ρ ((l, .list ds) :: O) (vs.zip ds ++ T) h1 := by
        refine ⟨φ, m, { q with temps := ?_ }⟩
        intro p hp
        rcases List.mem_append.mp hp with hp | hp
        · exact r.zip p hp
        · exact q.temps p hp
      exact St.set K0 ⟨rfl, fun _ _ => rfl⟩ ho fun φ hT _ => rfl
    have K2 : St prog w H a ρ ((h1.objs.size, .raw { cls := .type "list_iterator", data := .fields #[.ref l, .int 0 0] }) :: (l, .raw (listOf vs.toArray k)) :: O) (vs.zip ds ++ T) (h1.push { cls := .type "list_iterator", data := .fields #[.ref l, .int 0 0] }) :=
      K1.mine (Keep.push _ _) (fresh_none _) (Heap.get?_push_size _ rfl) fun φ _ => rfl
    have e1 : atD (h1.push { cls := .type "list_iterator", data := .fields #[.ref l, .int 0 0] }) h1.objs.size = { cls := .type "list_iterator", data := .fields #[.ref l, .int 0 0] } := atD_of (Heap.get?_push_size _ rfl)
    have e2 : atD (h1.push { cls := .type "list_iterator", data := .fields #[.ref l, .int 0 0] }) l = listOf vs.toArray k := atD_of (Heap.get?_push_of_some _ ho)
    rw [raws_two, e1, e2]
    exact K2
end
end Mine

namespace Mine

theorem top_7 : top 7 ≤ 2 ^ 127 := by decide +kernel
theorem top_mono : ∀ {r k : Nat}, r ≤ k → top r ≤ top k
  | r, 0, h => by rw [Nat.le_zero.mp h]; exact Int.le_refl _
  | r, k + 1, h => by
    rcases Nat.lt_or_eq_of_le h with h | rfl
    · have h1 := top_mono (Nat.le_of_lt_succ h)
      have h2 := top_pos k
      have h3 : top k ≤ top (k + 1) := by
        show top k ≤ 2 * top k * top k
        have : top k * 1 ≤ top k * top k := Int.mul_le_mul_of_nonneg_left h2 (by omega)
        rw [Int.mul_assoc]; omega
      exact Int.le_trans h1 h3
    · exact Int.le_refl _
theorem bits_of {x : Int} (h : x.natAbs ≤ 2 ^ 127) : Builtin.Int.intBits x ≤ 128 := by
  unfold Builtin.Int.intBits
  split
  · omega
  · rename_i hx
    have hne : x.natAbs ≠ 0 := by
      intro e
      have : x = 0 := Int.natAbs_eq_zero.mp e
      rw [this] at hx; exact hx rfl
    have := (Nat.log2_lt hne (k := 128)).mpr (Nat.lt_of_le_of_lt h (by decide +kernel))
    omega
theorem mulOk {a b : Int} {r k : Nat} (hr : r ≤ 7) (hk : k ≤ 7) (ha : -(top r) ≤ a ∧ a ≤ top r) (hb : -(top k) ≤ b ∧ b ≤ top k) : IntMulOk a b := by
  have h1 := Int.le_trans (top_mono hr) top_7
  have h2 := Int.le_trans (top_mono hk) top_7
  refine IntMulOk.of_le (m := 128) (n := 128) (bits_of ?_) (bits_of ?_) (by decide)
  · have : ((a.natAbs : Nat) : Int) ≤ 2 ^ 127 := by omega
    exact_mod_cast this
  · have : ((b.natAbs : Nat) : Int) ≤ 2 ^ 127 := by omega
    exact_mod_cast this

abbrev P3 := Int × Int × Int
abbrev N3 := Nat × Nat × Nat
noncomputable def p3D (q : P3) : D := .tup [.int q.1, .int q.2.1, .int q.2.2]
noncomputable def n3D (t : N3) : D := .tup [.int (t.1 : Nat), .int (t.2.1 : Nat), .int (t.2.2 : Nat)]
noncomputable def mon (t : N3) (q : P3) : Int := q.1 ^ t.1 * q.2.1 ^ t.2.1 * q.2.2 ^ t.2.2
noncomputable def valsOf (pts : List P3) (t : N3) : List Int := pts.map (mon t)
noncomputable def three3 (q : P3) : Prop := (q.1 = -1 ∨ q.1 = 0 ∨ q.1 = 1) ∧ (q.2.1 = -1 ∨ q.2.1 = 0 ∨ q.2.1 = 1) ∧ (q.2.2 = -1 ∨ q.2.2 = 0 ∨ q.2.2 = 1)
theorem pow_three {x : Int} (h : x = -1 ∨ x = 0 ∨ x = 1) : ∀ n : Nat, x ^ n = -1 ∨ x ^ n = 0 ∨ x ^ n = 1
  | 0 => .inr (.inr (Int.pow_zero x))
  | n + 1 => by
    rw [Int.pow_succ]
    rcases pow_three h n with e | e | e <;> rcases h with rfl | rfl | rfl <;> rw [e] <;> decide
theorem mul_three {x y : Int} (h : x = -1 ∨ x = 0 ∨ x = 1) (k : y = -1 ∨ y = 0 ∨ y = 1) : x * y = -1 ∨ x * y = 0 ∨ x * y = 1 := by
  rcases h with rfl | rfl | rfl <;> rcases k with rfl | rfl | rfl <;> decide
theorem mulOk_three {x y : Int} (h : x = -1 ∨ x = 0 ∨ x = 1) (k : y = -1 ∨ y = 0 ∨ y = 1) : IntMulOk x y := by
  refine mulOk (r := 0) (k := 0) (by decide) (by decide) ?_ ?_ <;> show -1 ≤ _ ∧ _ ≤ 1 <;> omega
theorem vals_small {pts : List P3} (h : ∀ q ∈ pts, three3 q) (t : N3) : Small (top 0) (valsOf pts t) := by
  intro s
  show -1 ≤ _ ∧ _ ≤ 1
  unfold valsOf
  rw [List.getD_eq_getElem?_getD, List.getElem?_map]
  cases hs : pts[s]? with
  | none => show -1 ≤ 0 ∧ 0 ≤ 1; omega
  | some q =>
    have := h q (List.mem_of_getElem? hs)
    have := mul_three (mul_three (pow_three this.1 t.1) (pow_three this.2.1 t.2.1)) (pow_three this.2.2 t.2.2)
    show -1 ≤ mon t q ∧ mon t q ≤ 1
    unfold mon
    omega

section
variable {prog : Program} {w : World} {H : Heap} {A : Around} {a : Act} {ρ : Rho} {O Oz : List (Addr × OD)} {T : List (Value × D)} {mg mb : Str → Option Value}
theorem CompM.three {scope : Scope} {x y z : Str} {px py pz tp : Pos} {k : Nat} {elt : Expr} {α : Type} {xs : List α} {g1 g2 g3 : α → D} {f : α → D} (hh : A.handled = none) (hx : capRho a scope ρ x = none) (hy : capRho a scope ρ y = none) (hz : capRho a scope ρ z = none) (hs : ∀ C Φ h₀, Storable (cact a scope C Φ h₀) x) (hs' : ∀ C Φ h₀, Storable (cact a scope C Φ h₀) y) (hs'' : ∀ C Φ h₀, Storable (cact a scope C Φ h₀) z)
    (e : ∀ u ∈ xs, ∀ C Φ h₀ O, Ev prog w H A (cact a scope C Φ h₀) (upd (upd (upd (capRho a scope ρ) x (.val (g1 u))) y (.val (g2 u))) z (.val (g3 u))) O elt (f u)) : CompM prog w H A a ρ scope (.Tuple [.Name x px, .Name y py, .Name z pz] k tp) [] elt xs (fun u => .tup [g1 u, g2 u, g3 u]) (fun _ => true) f where
  parts := fun u hu => ⟨_, fun v b hv => by
    unfold upd
    by_cases h : v = z
    · subst h; rw [hz] at hv; cases hv
    · rw [if_neg h]
      by_cases h : v = y
      · subst h; rw [hy] at hv; cases hv
      · rw [if_neg h]
        by_cases h : v = x
        · subst h; rw [hx] at hv; cases hv
        · rw [if_neg h]; exact hv, fun C Φ h₀ => ⟨Asg.tuple hh (AsgL.cons (Asg.name (hs C Φ h₀)) (AsgL.cons (Asg.name (hs' C Φ h₀)) (AsgL.cons (Asg.name (hs'' C Φ h₀)) AsgL.nil))) rfl rfl, fun O T => tests_nil, fun _ O => e u hu C Φ h₀ O⟩⟩
theorem zipD_map {α β : Type} (g : α → D) (k : β → D) (xs : List α) (ys : List β) : zipD (xs.map g) (ys.map k) = (xs.zip ys).map fun p => .tupg [g p.1, k p.2] := by
  unfold zipD
  induction xs generalizing ys with
  | nil => rfl
  | cons x xs ih =>
    cases ys with
    | nil => rfl
    | cons y ys => rw [List.map_cons, List.map_cons, List.zipWith_cons_cons, ih, List.zip_cons_cons, List.map_cons]
theorem Ev.itemI {x : Str} {px pos : Pos} {e : Expr} {vals : List Int} {s : Nat} (hx : ρ x = some (.val (.list (vals.map .int)))) (y : Ev prog w H A a ρ O e (.int (s : Nat))) (hs : s < vals.length) (hl : vals.length ≤ 1000) (hd : (x == ("__debug__" : Str)) = false := by decide) (hn : (x == ("__classdict__" : Str)) = false := by decide)
    (hsub : ∀ o j, ∃ ops, subscripted e false o j = operate ops (getItem o j) := by intro o j; exact ⟨_, rfl⟩) :
    Ev prog w H A a ρ O (.Subscript (.Name x px) e pos) (.int (vals.getD s 0)) :=
  Ev.sub (Ev.name hx hd hn) y HasItem.list (P2.itemL (by omega) (by omega) (by
    rw [Int.toNat_natCast, List.getElem?_map, List.getElem?_eq_getElem hs]
    simp [List.getD, List.getElem?_eq_getElem hs])) hsub

noncomputable def pivD (p : Piv) : D := .tup [.int (p.1 : Nat), .list (p.2.map .int)]
noncomputable def stAt (pts : List P3) (prs : List N3) (m : Nat) : List Piv × List Bool := ((prs.take m).map (valsOf pts)).foldl stepE ([], [])
theorem stAt_succ {pts : List P3} {prs : List N3} {m : Nat} {t : N3} (h : prs[m]? = some t) : stAt pts prs (m + 1) = stepE (stAt pts prs m) (valsOf pts t) := by
  unfold stAt
  rw [List.take_add_one, h, List.map_append, List.foldl_append]; rfl
theorem stAt_ok {pts : List P3} {prs : List N3} (h : ∀ q ∈ pts, three3 q) : ∀ m, m ≤ prs.length → ElimOk pts.length (stAt pts prs m).1 ∧ (stAt pts prs m).2.length = m
  | 0, _ => ⟨⟨⟨(fun p hp => by simp [stAt] at hp), (fun p hp => by simp [stAt] at hp), (fun p hp => by simp [stAt] at hp), List.Pairwise.nil⟩, fun r p hp => by simp [stAt] at hp⟩, rfl⟩
  | m + 1, hm => by
    have ih := stAt_ok h m (Nat.le_of_succ_le hm)
    rw [stAt_succ (List.getElem?_eq_getElem hm)]
    refine ⟨elimOk_step ih.1 (by unfold valsOf; rw [List.length_map]) (vals_small h _), ?_⟩
    unfold stepE
    simp [ih.2]

theorem sz2 {a b : D} : [a, b].length ≤ sizeLine := by show 2 ≤ 2 ^ 24; decide
theorem int_le26 {n m : Nat} {b : Int} (h : n ≤ m) (k : (m : Int) ≤ b := by decide) : ((n : Nat) : Int) ≤ b := Int.le_trans (Int.ofNat_le.mpr h) k
theorem small_int {x : Int} (h : x = -1 ∨ x = 0 ∨ x = 1) : x.natAbs < 2 ^ 64 := by rcases h with rfl | rfl | rfl <;> decide
theorem C_leaning {prs : List N3} {pts : List P3} (hpts : ∀ q ∈ pts, three3 q) (hlp : pts.length ≤ 7) (hprs : ∀ t ∈ prs, t.1 ≤ 20 ∧ t.2.1 ≤ 20 ∧ t.2.2 ≤ 20) (hlen : prs.length ≤ 100000) (W : Wo prog w H mg mb) (r : Room A 1) :
    PL prog w H A (fun vs => call (.ref 161) vs) [.list (prs.map n3D), .list (pts.map p3D)] (.list ((stAt pts prs prs.length).2.map .bool)) := by
  refine PL.fnR (f := 161) (xs := ["products", "points"]) W r rfl rfl (by rfl) rfl rfl (bind2 fun _ _ => rfl) rfl (by decide) (by decide) (by decide) rfl rfl fun A L Φ h₀ r => ?_
  refine execs_next (ex_assign_own EvL.nil (.inl rfl)) (Tr.exists fun n1 => ?_)
  refine execs_next (ex_assign_own EvL.nil (.inl rfl)) (Tr.exists fun n2 => ?_)
  refine execs_next (ex_forN prs n3D (fun m => [("products", .val (.list (prs.map n3D))), ("points", .val (.list (pts.map p3D))), ("pivots", .own n1), ("leaning", .own n2)]) (fun m => [(n2, .list ((stAt pts prs m).2.map .bool)), (n1, .list ((stAt pts prs m).1.map pivD))])
    (EvIt.of (Ev.name rfl) (Itr.list r.hh)) ⟨rfl, rfl, rfl, rfl, trivial⟩ rfl
    (fun i t ht => Asg.tuple r.hh (AsgL.cons (Asg.nameL (stCell rfl rfl)) (AsgL.cons (Asg.nameL (stCell rfl rfl)) (AsgL.cons (Asg.nameL (stCell rfl rfl)) AsgL.nil))) rfl rfl) fun m t ht Oz T => ?_) ?_
  · have hm := (List.getElem?_eq_some_iff.mp ht).1
    have ht20 := hprs t (List.mem_of_getElem? ht)
    obtain ⟨E, hEl⟩ := stAt_ok (prs := prs) hpts m (Nat.le_of_lt hm)
    have hsucc := stAt_succ (pts := pts) ht
    generalize stAt pts prs m = st at E hEl hsucc
    have hpl := pivOk_len E.ok
    have hv0 : (valsOf pts t).length = pts.length := by unfold valsOf; rw [List.length_map]
    have hsm := vals_small hpts t
    have e0 : (pts.filter fun _ => true).map (fun q => D.int (mon t q)) = (valsOf pts t).map .int := by rw [List.filter_eq_self.mpr (fun _ _ => rfl)]; unfold valsOf; rw [List.map_map]; rfl
    refine execs_next (ex_assign (d := .list ((valsOf pts t).map .int)) (Ev.cast (Ev.listcompM (xs := pts) (g := p3D) (fun _ => true) (fun q => .int (mon t q)) (EvIt.of (Ev.name rfl) (Itr.list r.hh)) (CompM.three r.hh rfl rfl rfl (fun C Φ h₀ => .inl rfl) (fun C Φ h₀ => .inl rfl) (fun C Φ h₀ => .inl rfl) fun q hq C Φ h₀ O => ?_) (sl_of hlp)) (congrArg D.list e0)) (stCell rfl rfl)) ?_
    · have h3 := hpts q hq
      exact Ev.binop (Ev.binop (Ev.binop (Ev.name rfl) (Ev.name rfl) (P2.pow (nat0 _) (int_le26 ht20.1) (small_int h3.1))) (Ev.binop (Ev.name rfl) (Ev.name rfl) (P2.pow (nat0 _) (int_le26 ht20.2.1) (small_int h3.2.1))) (P2.mul (mulOk_three (pow_three h3.1 _) (pow_three h3.2.1 _)))) (Ev.binop (Ev.name rfl) (Ev.name rfl) (P2.pow (nat0 _) (int_le26 ht20.2.2) (small_int h3.2.2))) (P2.mul (mulOk_three (mul_three (pow_three h3.1 _) (pow_three h3.2.1 _)) (pow_three h3.2.2 _)))
    -- the reduction
    refine Tr.perm (O' := (n1, .list (st.1.map pivD)) :: (n2, .list (st.2.map .bool)) :: Oz) (List.Perm.swap _ _ _) ?_
    refine execs_next (ex_forN st.1 pivD (fun k => [("products", .val (.list (prs.map n3D))), ("points", .val (.list (pts.map p3D))), ("pivots", .own n1), ("leaning", .own n2), ("values", .val (.list ((reduce (st.1.take k) (valsOf pts t)).map .int)))]) (fun _ => (n2, .list (st.2.map .bool)) :: Oz)
      (EvIt.own r.hh rfl) ⟨rfl, rfl, rfl, rfl, rfl, trivial⟩ rfl
      (fun i p hp => Asg.tuple r.hh (AsgL.cons (Asg.nameL (stCell rfl rfl)) (AsgL.cons (Asg.nameL (stCell rfl rfl)) AsgL.nil)) rfl rfl) fun k p hp Oz' T' => ?_) ?_
    · have hk := (List.getElem?_eq_some_iff.mp hp).1
      have hpm := List.mem_of_getElem? hp
      obtain ⟨hsk, hlk⟩ := reduce_small E.ok.len hv0 E.small hsm k (Nat.le_of_lt hk)
      have hspk := E.small k p hp
      have hpl2 := E.ok.len p hpm
      have hplt := E.ok.lt p hpm
      have e1 : reduce (st.1.take (k + 1)) (valsOf pts t) = red1 (reduce (st.1.take k) (valsOf pts t)) p := by
        unfold reduce
        rw [List.take_add_one, hp, List.foldl_append]; rfl
      generalize reduce (st.1.take k) (valsOf pts t) = u at hsk hlk e1
      have hk7 : k ≤ 7 := Nat.le_trans (Nat.le_of_lt hk) (Nat.le_trans hpl hlp)
      refine execs_next (ex_assign (d := .list ((red1 u p).map .int)) (Ev.cast (Ev.listcompM (xs := u.zip p.2) (g := fun q => .tupg [.int q.1, .int q.2]) (fun _ => true) (fun q => .int (p.2.getD p.1 0 * q.1 - u.getD p.1 0 * q.2)) (EvIt.cast (EvIt.zip r.hh W rfl rfl (Ev.name rfl) (Ev.name rfl)) (zipD_map D.int D.int u p.2))
        (CompM.two r.hh rfl rfl (fun C Φ h₀ => .inl rfl) (fun C Φ h₀ => .inl rfl) fun q hq C Φ h₀ O => ?_) ?_) ?_) (stCell rfl rfl)) (execs_nil fun g k' => ⟨.inl rfl, _, ⟨rfl, rfl, rfl, rfl, ?_, trivial⟩, k'⟩)
      · obtain ⟨hq1, hq2⟩ := List.of_mem_zip hq
        obtain ⟨s1, hs1, e1'⟩ := List.mem_iff_getElem.mp hq1
        obtain ⟨s2, hs2, e2'⟩ := List.mem_iff_getElem.mp hq2
        have b1 : -(top k) ≤ q.1 ∧ q.1 ≤ top k := by
          have := hsk s1
          rw [List.getD_eq_getElem?_getD, List.getElem?_eq_getElem hs1, e1'] at this
          exact this
        have b2 : -(top k) ≤ q.2 ∧ q.2 ≤ top k := by
          have := hspk s2
          rw [List.getD_eq_getElem?_getD, List.getElem?_eq_getElem hs2, e2'] at this
          exact this
        exact Ev.binop (Ev.binop (Ev.itemI rfl (Ev.name rfl) (hpl2 ▸ hplt) (hpl2 ▸ le_of hlp)) (Ev.name rfl) (P2.mul (mulOk hk7 hk7 (hspk p.1) b1))) (Ev.binop (Ev.itemI rfl (Ev.name rfl) (hlk ▸ hplt) (hlk ▸ le_of hlp)) (Ev.name rfl) (P2.mul (mulOk hk7 hk7 (hsk p.1) b2))) P2.sub
      · rw [List.length_zip, hlk]; exact Nat.le_trans (Nat.min_le_left _ _) (sl_of hlp)
      · rw [List.filter_eq_self.mpr (fun _ _ => rfl)]; unfold red1; rw [List.map_map]; rfl
      · rw [e1]; rfl
    rw [List.take_length]
    have hvl := reduce_len E.ok.len hv0
    have hstep : stepE st (valsOf pts t) = (match spotsOf (reduce st.1 (valsOf pts t)) with | [] => st.1 | s :: _ => st.1 ++ [(s, reduce st.1 (valsOf pts t))], st.2 ++ [decide (spotsOf (reduce st.1 (valsOf pts t)) = [])]) := rfl
    rw [hstep] at hsucc
    generalize reduce st.1 (valsOf pts t) = v at hvl hsucc
    have hv7 : v.length ≤ 7 := hvl ▸ hlp
    refine execs_next (ex_assign_compM (xs := List.range v.length) (g := fun s => D.int (s : Nat)) (fun s => v.getD s 0 != 0) (fun s => .int (s : Nat)) (EvIt.of (Ev.callT W rfl rfl rfl (by decide) (EvL.cons (Ev.callB W rfl rfl rfl (by decide) (EvL.cons (Ev.name rfl) EvL.nil) (PL.of1 (d := .int (v.length : Nat)) ?_)) EvL.nil) (PL.of1 P1.range)) (Itr.range r.hh (int_lt hv7)))
      (CompM.name1 rfl (fun C Φ h₀ => .inl rfl) (fun s hs C Φ h₀ O => Tt.compare (Ev.itemI rfl (Ev.name rfl) (List.mem_range.mp hs) (le_of hv7)) Ev.int P2.neI) (fun s hs _ C Φ h₀ O => Ev.name rfl)) (sl_range hv7) (.inl rfl)) ?_
    · have := P1.len (prog := prog) (w := w) (H := H) (A := A) (ds := v.map D.int) (len_map_lt hv7)
      rw [List.length_map] at this
      exact this
    have e3 : ((List.range v.length).filter fun s => v.getD s 0 != 0).map (fun s => D.int (s : Nat)) = ((spotsOf v).map fun s => ((s : Nat) : Int)).map .int := by rw [List.map_map]; rfl
    rw [e3]
    refine Tr.perm (O' := (n2, .list (st.2.map .bool)) :: (n1, .list (st.1.map pivD)) :: Oz) (by
      show ((n2, OD.list (st.2.map .bool)) :: (n1, .list (st.1.map pivD)) :: Oz).Perm (((n2, OD.list (st.2.map .bool)) :: Oz) ++ [(n1, .list (st.1.map pivD))])
      exact (List.Perm.cons _ (List.perm_append_comm (l₁ := [(n1, OD.list (st.1.map pivD))]) (l₂ := Oz)))) ?_
    refine execs_next (ex_append rfl (Ev.compare (Ev.name rfl) (Ev.list EvL.nil) (P2.eqLI (ns := (spotsOf v).map fun s => ((s : Nat) : Int)) (ms := []) r.u64)) (sl_map (Nat.le_trans (Nat.le_of_eq hEl) (Nat.le_trans (Nat.le_of_lt hm) hlen)))) ?_
    refine Tr.perm (O' := (n1, .list (st.1.map pivD)) :: (n2, .list (st.2.map .bool ++ [.bool (decide ((spotsOf v).map (fun s => ((s : Nat) : Int)) = []))])) :: Oz) (List.Perm.swap _ _ _) ?_
    have hlean : (stAt pts prs (m + 1)).2.map D.bool = st.2.map .bool ++ [.bool (decide ((spotsOf v).map (fun s => ((s : Nat) : Int)) = []))] := by
      have hdd : decide ((spotsOf v).map (fun s => ((s : Nat) : Int)) = []) = decide (spotsOf v = []) := decide_eq_decide.mpr List.map_eq_nil_iff
      rw [hdd, hsucc, List.map_append]; rfl
    rw [← hlean]
    refine execs_next (P' := St prog w H _ (rl [("products", .val (.list (prs.map n3D))), ("points", .val (.list (pts.map p3D))), ("pivots", .own n1), ("leaning", .own n2)]) ((n1, .list ((stAt pts prs (m + 1)).1.map pivD)) :: (n2, .list ((stAt pts prs (m + 1)).2.map .bool)) :: Oz) T) ?_ (execs_nil fun g k => ⟨.inl rfl, _, ⟨rfl, rfl, rfl, rfl, trivial⟩, k.perm (List.Perm.swap _ _ _)⟩)
    refine ex_if (Tt.compare (Ev.name rfl) (Ev.list EvL.nil) (P2.neLI (ns := (spotsOf v).map fun s => ((s : Nat) : Int)) (ms := []) r.u64)) (fun hb => ?_) (fun hb => ?_)
    · cases hsp : spotsOf v with
      | nil => rw [hsp] at hb; exact absurd hb (by decide)
      | cons s0 sr =>
        have h1 : (stAt pts prs (m + 1)).1 = st.1 ++ [(s0, v)] := by rw [hsucc, hsp]
        rw [h1, List.map_append]
        have hs0 : s0 < v.length := (mem_spots.mp (by rw [hsp]; exact List.Mem.head _)).1
        have hlen : (spotsOf v).length ≤ v.length := by
          unfold spotsOf
          exact Nat.le_trans (List.length_filter_le _ _) (by rw [List.length_range]; exact Nat.le_refl _)
        refine execs_next (ex_append rfl (Ev.tuple (EvL.cons (d := .int (s0 : Nat)) (Ev.cast (Ev.itemI (vals := (spotsOf v).map fun s => ((s : Nat) : Int)) (s := 0) (by rw [← hsp]; rfl) Ev.int ?_ ?_) ?_) (EvL.cons (Ev.name rfl) EvL.nil)) sz2) ?_) (execs_nil fun g k => ⟨rfl, k.toRl _ ⟨rfl, rfl, rfl, rfl, trivial⟩⟩)
        · rw [hsp]; simp
        · exact len_map_le (Nat.le_trans hlen hv7)
        · rw [hsp]; rfl
        · exact sl_map (Nat.le_trans hpl hlp)
    · have hsp : spotsOf v = [] := by
        cases hsp : spotsOf v with
        | nil => rfl
        | cons s0 sr => rw [hsp] at hb; exact absurd hb (by simp)
      have h1 : (stAt pts prs (m + 1)).1 = st.1 := by rw [hsucc, hsp]
      rw [h1]
      exact execs_nil fun g k => ⟨rfl, k.toRl _ ⟨rfl, rfl, rfl, rfl, trivial⟩⟩
  · exact execs_ret (ex_return_list (x := "leaning") rfl)
end
end Mine

namespace Mine

/-! slices of lists -/
section
variable {α β : Type}
theorem pick_range (ds : List α) (a n : Nat) (h : a + n ≤ ds.length) : ((List.range n).map (a + ·)).filterMap (ds[·]?) = (ds.drop a).take n := by
  induction n generalizing a with
  | zero => simp
  | succ n ih =>
    rw [List.range_succ_eq_map, List.map_cons, List.map_map, List.filterMap_cons]
    have ha : a < ds.length := by omega
    have e : ds[a + 0]? = some ds[a] := List.getElem?_eq_getElem ha
    rw [e]
    have e2 : ((a + ·) ∘ Nat.succ) = ((a + 1) + ·) := by funext i; show a + (i + 1) = a + 1 + i; omega
    rw [e2]
    show ds[a] :: _ = _
    rw [ih (a + 1) (by omega), List.drop_eq_getElem_cons ha, List.take_succ_cons]
theorem pick_between {ds : List α} {lo hi st : Option Int} {a b : Nat} (hb : sliceBounds lo hi st ds.length = ((a : Int), (b : Int), 1)) (hle : b ≤ ds.length) : pickL ds lo hi st = (ds.drop a).take (b - a) := by
  unfold pickL pickI
  rw [hb]
  show List.filterMap (ds[·]?) (sliceRange (a : Int) (b : Int) 1) = _
  rw [sliceRange_one]
  by_cases h : a ≤ b
  · exact pick_range ds a (b - a) (by omega)
  · have : b - a = 0 := by omega
    rw [this]; simp
theorem pick_drop (ds : List α) (a : Nat) : pickL ds (some (a : Int)) none none = ds.drop a := by
  have hb : sliceBounds (some (a : Int)) none none ds.length = (((min a ds.length : Nat) : Int), (ds.length : Int), 1) := by
    unfold sliceBounds
    simp only [Option.getD_none]
    have h1 : ¬ ((a : Int) < 0) := by omega
    have h2 : (1 : Int) > 0 := by decide
    simp only [h1, h2, if_true, if_false, Prod.mk.injEq, and_true]
    omega
  rw [pick_between hb (Nat.le_refl _)]
  rcases Nat.le_total a ds.length with h | h
  · rw [Nat.min_eq_left h, List.take_of_length_le (by rw [List.length_drop]; omega)]
  · rw [Nat.min_eq_right h, List.drop_eq_nil_of_le (Nat.le_refl _), List.drop_eq_nil_of_le h]; simp
theorem pick_take (ds : List α) (a : Nat) : pickL ds none (some (a : Int)) none = ds.take a := by
  have hb : sliceBounds none (some (a : Int)) none ds.length = (((0 : Nat) : Int), ((min a ds.length : Nat) : Int), 1) := by
    unfold sliceBounds
    simp only [Option.getD_none]
    have h1 : ¬ ((a : Int) < 0) := by omega
    have h2 : (1 : Int) > 0 := by decide
    simp only [h1, h2, if_true, if_false, Prod.mk.injEq, and_true]
    omega
  rw [pick_between hb (Nat.min_le_right _ _)]
  rw [List.drop_zero, Nat.sub_zero]
  rcases Nat.le_total a ds.length with h | h
  · rw [Nat.min_eq_left h]
  · rw [Nat.min_eq_right h, List.take_length, List.take_of_length_le h]
theorem pick_whole (ds : List α) : pickL ds none none (some 1) = ds := by
  have hb : sliceBounds none none (some 1) ds.length = (((0 : Nat) : Int), (ds.length : Int), 1) := by
    unfold sliceBounds
    simp only [Option.getD_some]
    rw [if_pos (by decide), if_pos (by decide)]; rfl
  rw [pick_between hb (Nat.le_refl _)]
  simp
theorem pick_last (ds : List α) : pickL ds (some (-1)) none none = ds.drop (ds.length - 1) := by
  have hb : sliceBounds (some (-1)) none none ds.length = (((ds.length - 1 : Nat) : Int), (ds.length : Int), 1) := by
    unfold sliceBounds
    simp only [Option.getD_none]
    rw [if_pos (by decide), if_pos (by decide), if_pos (by decide)]
    congr 1
    omega
  rw [pick_between hb (Nat.le_refl _), List.take_of_length_le (by rw [List.length_drop]; omega)]
theorem pick_rev (ds : List α) : pickL ds none none (some (-1)) = ds.reverse := by
  have hb : sliceBounds none none (some (-1)) ds.length = ((ds.length : Int) - 1, -1, -1) := by
    unfold sliceBounds
    simp only [Option.getD_some]
    rw [if_neg (by decide), if_neg (by decide)]
  unfold pickL pickI
  rw [hb]
  show List.filterMap (ds[·]?) (sliceRange ((ds.length : Int) - 1) (-1) (-1)) = _
  rw [krv_sliceRange, List.filterMap_map]
  apply List.ext_getElem?
  intro i
  have key : ∀ n, n ≤ ds.length → (List.range n).filterMap ((ds[·]?) ∘ fun k => ds.length - 1 - k) = ds.reverse.take n := by
    intro n
    induction n with
    | zero => intro _; simp
    | succ n ih =>
      intro hn
      rw [List.range_succ, List.filterMap_append, ih (by omega), List.take_add_one]
      congr 1
      have hlt : ds.length - 1 - n < ds.length := by omega
      have : ds.reverse[n]? = ds[ds.length - 1 - n]? := List.getElem?_reverse (by omega)
      rw [this]
      simp [List.getElem?_eq_getElem hlt]
  rw [key _ (Nat.le_refl _), List.take_of_length_le (by rw [List.length_reverse]; exact Nat.le_refl _)]
theorem pickL_map (f : α → β) (ds : List α) (lo hi st : Option Int) : pickL (ds.map f) lo hi st = (pickL ds lo hi st).map f := by
  unfold pickL
  rw [List.length_map, List.map_filterMap]
  congr 1
  funext i
  rw [List.getElem?_map]
end
end Mine

namespace Mine

/-! the points -/
noncomputable def numsOf (ns : List Int) : List Int := (List.range 4).map (fun k => ([0, 12, 18, 16] : List Int).getD k 0 + (pickL ns (some (k : Nat)) none (some 4)).sum) ++ ns.take 3
noncomputable def ptOf (n : Int) : P3 := (n.fmod 3 - 1, (n.fdiv 3).fmod 3 - 1, (n.fdiv 9).fmod 3 - 1)
noncomputable def addP (acc : List P3) (p : P3) : List P3 := if acc.contains p then acc else acc ++ [p]
noncomputable def pts1 (ms : List Int) (k : Nat) : List P3 := (ms.take k).foldl (fun acc n => addP acc (ptOf n)) []
noncomputable def rot : Nat → P3 → P3
  | 0, q => q
  | 1, q => (q.2.1, q.2.2, q.1)
  | _, q => (q.2.2, q.1, q.2.1)
noncomputable def ptsOf (ns : List Int) (t : Nat) : List P3 := (pts1 (numsOf ns) (numsOf ns).length).map (rot t)
noncomputable def l3 (q : P3) : List Int := [q.1, q.2.1, q.2.2]
theorem l3_inj {p q : P3} : (l3 q == l3 p) = (p == q) := by
  rw [Bool.eq_iff_iff]
  obtain ⟨a, b, c⟩ := p
  obtain ⟨d, e, f⟩ := q
  simp only [beq_iff_eq, l3, List.cons.injEq, and_true, Prod.mk.injEq]
  constructor
  · rintro ⟨rfl, rfl, rfl⟩; exact ⟨rfl, rfl, rfl⟩
  · rintro ⟨rfl, rfl, rfl⟩; exact ⟨rfl, rfl, rfl⟩
theorem any_p3 (acc : List P3) (p : P3) : ((acc.map p3D).any fun y => unPt y == l3 p) = acc.contains p := by
  rw [List.any_map, List.contains_eq_any_beq]
  congr 1
  funext q
  show (unPt (ptD (l3 q)) == l3 p) = (p == q)
  rw [unPt_pt, l3_inj]
theorem eq_p3 (acc : List P3) (p : P3) : ∀ y ∈ acc.map p3D, EqD y (p3D p) (unPt y == l3 p) := by
  intro y hy
  obtain ⟨q, _, rfl⟩ := List.mem_map.mp hy
  show EqD (ptD (l3 q)) (ptD (l3 p)) (unPt (ptD (l3 q)) == l3 p)
  rw [unPt_pt]
  exact EqD.tup
theorem pts1_succ {ms : List Int} {k : Nat} {x : Int} (h : ms[k]? = some x) : pts1 ms (k + 1) = addP (pts1 ms k) (ptOf x) := by
  unfold pts1
  rw [List.take_add_one, h, List.foldl_append]; rfl
theorem pts1_len (ms : List Int) : ∀ k, (pts1 ms k).length ≤ k
  | 0 => by simp [pts1]
  | k + 1 => by
    have ih := pts1_len ms k
    cases h : ms[k]? with
    | none =>
      have := List.getElem?_eq_none_iff.mp h
      have e : pts1 ms (k + 1) = pts1 ms k := by unfold pts1; rw [List.take_of_length_le (by omega), List.take_of_length_le this]
      rw [e]; omega
    | some x =>
      rw [pts1_succ h]
      unfold addP
      split
      · omega
      · simp; omega
theorem nums_len (ns : List Int) : (numsOf ns).length ≤ 7 := by
  unfold numsOf
  rw [List.length_append, List.length_map, List.length_range, List.length_take]
  omega

section
variable {prog : Program} {w : World} {H : Heap} {A : Around} {mg mb : Str → Option Value}
theorem rot_pick {q : P3} {t : Nat} (ht : t < 3) : tpick [.int q.1, .int q.2.1, .int q.2.2] (some (t : Int)) none ++ tpick [.int q.1, .int q.2.1, .int q.2.2] none (some (t : Int)) = [.int (rot t q).1, .int (rot t q).2.1, .int (rot t q).2.2] ∧
    (tpick [.int q.1, .int q.2.1, .int q.2.2] (some (t : Int)) none).length = 3 - t ∧ (tpick [.int q.1, .int q.2.1, .int q.2.2] none (some (t : Int))).length = t := by
  rcases (show t = 0 ∨ t = 1 ∨ t = 2 by omega) with rfl | rfl | rfl
  · rw [tpick_of (b := 0) (f := 3) (n := 3) (m := 3) rfl (by decide) (by decide), tpick_of (b := 0) (f := 0) (n := 0) (m := 3) rfl (by decide) (by decide)]; exact ⟨rfl, rfl, rfl⟩
  · rw [tpick_of (b := 1) (f := 3) (n := 2) (m := 3) rfl (by decide) (by decide), tpick_of (b := 0) (f := 1) (n := 1) (m := 3) rfl (by decide) (by decide)]; exact ⟨rfl, rfl, rfl⟩
  · rw [tpick_of (b := 2) (f := 3) (n := 1) (m := 3) rfl (by decide) (by decide), tpick_of (b := 0) (f := 2) (n := 2) (m := 3) rfl (by decide) (by decide)]; exact ⟨rfl, rfl, rfl⟩
theorem rot_whole {q : P3} {t : Nat} (ht : t < 3) : ((Builtin.Slice.sliceAdjust (some (t : Int)) none 1 (3 : Nat)).1 == 0 && Builtin.Slice.slicePlaces (Builtin.Slice.sliceAdjust (some (t : Int)) none 1 (3 : Nat)).1 (Builtin.Slice.sliceAdjust (some (t : Int)) none 1 (3 : Nat)).2 1 == 3) = true → tpick [.int q.1, .int q.2.1, .int q.2.2] (some (t : Int)) none = [.int q.1, .int q.2.1, .int q.2.2] := by
  rcases (show t = 0 ∨ t = 1 ∨ t = 2 by omega) with rfl | rfl | rfl
  · intro _; rw [tpick_of (b := 0) (f := 3) (n := 3) (m := 3) rfl (by decide) (by decide)]; rfl
  · intro h; exact absurd h (by decide)
  · intro h; exact absurd h (by decide)
theorem rot_whole' {q : P3} {t : Nat} (ht : t < 3) : ((Builtin.Slice.sliceAdjust none (some (t : Int)) 1 (3 : Nat)).1 == 0 && Builtin.Slice.slicePlaces (Builtin.Slice.sliceAdjust none (some (t : Int)) 1 (3 : Nat)).1 (Builtin.Slice.sliceAdjust none (some (t : Int)) 1 (3 : Nat)).2 1 == 3) = true → tpick [.int q.1, .int q.2.1, .int q.2.2] none (some (t : Int)) = [.int q.1, .int q.2.1, .int q.2.2] := by
  rcases (show t = 0 ∨ t = 1 ∨ t = 2 by omega) with rfl | rfl | rfl
  · intro h; exact absurd h (by decide)
  · intro h; exact absurd h (by decide)
  · intro h; exact absurd h (by decide)

theorem C_points {ns : List Int} {t : Nat} (ht : t < 3) (hns : ns.length ≤ 1000) (W : Wo prog w H mg mb) (r : Room A 1) : PL prog w H A (fun vs => call (.ref 110) vs) [.arg (ns.map .int), .int (t : Nat)] (.list ((ptsOf ns t).map p3D)) := by
  have hsl : sizeLine = 16777216 := rfl
  have hnl := nums_len ns
  refine PL.fnR (f := 110) (xs := ["script", "turn"]) W r rfl rfl (by rfl) rfl rfl (bind2 fun _ _ => rfl) rfl (by decide) (by decide) (by decide) rfl rfl fun A L Φ h₀ r => ?_
  refine execs_next (ex_assign (d := .list (([0, 12, 18, 16] : List Int).map .int)) (Ev.list (EvL.cons Ev.int (EvL.cons Ev.int (EvL.cons Ev.int (EvL.cons Ev.int EvL.nil))))) (stCell rfl rfl)) ?_
  refine execs_next (ex_assign (d := .list ((numsOf ns).map .int)) (Ev.cast (Ev.binop (Ev.listcompM (xs := List.range 4) (g := fun k => D.int (k : Nat)) (fun _ => true) (fun k => .int (([0, 12, 18, 16] : List Int).getD k 0 + (pickL ns (some (k : Nat)) none (some 4)).sum)) (EvIt.of (d := .range 0 ((4 : Nat) : Int)) (Ev.callT W rfl rfl rfl (by decide) (EvL.cons Ev.int EvL.nil) (PL.of1 P1.range)) (Itr.range r.hh (by decide))) (CompM.name rfl (fun C Φ h₀ => .inl rfl) fun k hk C Φ h₀ O => ?_) (by decide))
    (Ev.sub (Ev.name rfl) (Ev.slice EvP.none (EvP.some Ev.int) EvP.none) HasItem.arg (P2.sliceA (by decide) ?_)) (P2.addL ?_)) ?_) (.inl rfl)) ?_
  · have hk4 := List.mem_range.mp hk
    refine Ev.binop (Ev.itemI (vals := [0, 12, 18, 16]) (s := k) rfl (Ev.name rfl) hk4 (by decide)) (Ev.callB W rfl rfl rfl (by decide) (EvL.cons (Ev.cast (Ev.sub (Ev.name rfl) (Ev.slice (EvP.some (Ev.name rfl)) EvP.none (EvP.some Ev.int)) HasItem.arg (P2.sliceA (by decide) ?_)) (congrArg D.list (pickL_map D.int ns _ _ _))) EvL.nil) (PL.of1 (P1.sumL r.hh))) P2.add
    exact sl_map hns
  · exact sl_map hns
  · rw [pickL_map, show (3 : Int) = ((3 : Nat) : Int) from rfl, pick_take, List.length_map, List.length_map, List.length_take]
    have := List.length_filter_le (fun _ : Nat => true) (List.range 4)
    rw [List.length_range] at this
    omega
  · rw [pickL_map, show (3 : Int) = ((3 : Nat) : Int) from rfl, pick_take]
    unfold numsOf
    rw [List.map_append, List.map_map]; rfl
  refine execs_next (ex_assign_own EvL.nil (.inl rfl)) (Tr.exists fun n => ?_)
  refine execs_next (ex_forN (numsOf ns) D.int (fun i => [("script", .val (.arg (ns.map .int))), ("turn", .val (.int (t : Nat))), ("points", .own n)]) (fun i => [(n, .list ((pts1 (numsOf ns) i).map p3D))]) (EvIt.of (Ev.name rfl) (Itr.list r.hh)) ⟨rfl, rfl, rfl, trivial⟩ rfl (fun i d hd => Asg.nameL (.inl rfl)) fun i x hx Oz T => ?_) ?_
  · have hi := (List.getElem?_eq_some_iff.mp hx).1
    have hl := pts1_len (numsOf ns) i
    have hs := pts1_succ hx
    have h3 : ((3 : Int)).natAbs < 1073741824 := by decide
    refine execs_next (ex_assign (d := p3D (ptOf x)) (Ev.tuple (EvL.cons (Ev.binop (Ev.binop (Ev.name rfl) Ev.int (P2.mod (by decide))) Ev.int P2.sub) (EvL.cons (Ev.binop (Ev.binop (Ev.binop (Ev.name rfl) Ev.int (P2.div (by decide) (by decide))) Ev.int (P2.mod (by decide))) Ev.int P2.sub) (EvL.cons (Ev.binop (Ev.binop (Ev.binop (Ev.name rfl) Ev.int (P2.div (by decide) (by decide))) Ev.int (P2.mod (by decide))) Ev.int P2.sub) EvL.nil))) sz3) (.inl rfl)) ?_
    refine execs_next (P' := St prog w H _ (rl [("script", .val (.arg (ns.map .int))), ("turn", .val (.int (t : Nat))), ("points", .own n)]) ((n, .list ((pts1 (numsOf ns) (i + 1)).map p3D)) :: Oz) T) ?_ (execs_nil fun g k => ⟨.inl rfl, _, ⟨rfl, rfl, rfl, trivial⟩, k⟩)
    rw [hs]
    refine ex_if (Tt.notInOwn (fun y => unPt y == l3 (ptOf x)) rfl (Ev.name rfl) (eq_p3 _ _) r.u2) (fun hb => ?_) (fun hb => ?_)
    · rw [any_p3] at hb
      have e2 : addP (pts1 (numsOf ns) i) (ptOf x) = pts1 (numsOf ns) i ++ [ptOf x] := by unfold addP; rw [if_neg (by simpa using hb)]
      rw [e2, List.map_append]
      exact execs_next (ex_append rfl (Ev.name rfl) (sl_map (Nat.le_trans (pts1_len (numsOf ns) i) (Nat.le_trans (Nat.le_of_lt hi) hnl)))) (execs_nil fun g k => ⟨rfl, k.toRl _ ⟨rfl, rfl, rfl, trivial⟩⟩)
    · rw [any_p3] at hb
      have e2 : addP (pts1 (numsOf ns) i) (ptOf x) = pts1 (numsOf ns) i := by unfold addP; rw [if_pos (by simpa using hb)]
      rw [e2]
      exact execs_nil fun g k => ⟨rfl, k.toRl _ ⟨rfl, rfl, rfl, trivial⟩⟩
  · have hpl := pts1_len (numsOf ns) (numsOf ns).length
    refine Tr.freeze (x := "points") rfl ?_
    refine execs_ret (ex_return (Ev.cast (Ev.listcompM (xs := pts1 (numsOf ns) (numsOf ns).length) (g := p3D) (fun _ => true) (fun q => p3D (rot t q)) (EvIt.of (Ev.name rfl) (Itr.list r.hh)) (CompM.name rfl (fun C Φ h₀ => .inl rfl) fun q hq C Φ h₀ O => ?_) (by omega)) ?_))
    · obtain ⟨e1, e2, e3⟩ := rot_pick (q := q) ht
      exact Ev.cast (Ev.binop (Ev.sub (Ev.name rfl) (Ev.slice (EvP.some (Ev.name rfl)) EvP.none EvP.none) HasItem.tup (P2.sliceT sz3 (by rw [e2]; omega) (rot_whole ht))) (Ev.sub (Ev.name rfl) (Ev.slice EvP.none (EvP.some (Ev.name rfl)) EvP.none) HasItem.tup (P2.sliceT sz3 (by rw [e3]; omega) (rot_whole' ht))) (P2.addT (by rw [e2, e3]; omega))) (congrArg D.tup e1)
    · rw [List.filter_eq_self.mpr (fun _ _ => rfl)]
      unfold ptsOf
      rw [List.map_map]; rfl
end
end Mine

namespace Mine

section
variable {prog : Program} {w : World} {H : Heap} {A : Around} {a : Act} {ρ : Rho} {O Oz : List (Addr × OD)} {T : List (Value × D)} {φ : FM} {h : Heap} {mg mb : Str → Option Value}

theorem St.inK (W : Wo prog w H mg mb) (K : St prog w H a ρ O T h) : (hd.heap_1 w.params).In h := by
  obtain ⟨φ, m, q⟩ := K
  exact W.X.keeps (q.wb.trans q.base)
theorem inst_at {s : Shared} {x dx C : Addr} {es : List DictEntry} {n : Nat} (hx : s.heap.get? x = some (instObj C dx)) (hdx : s.heap.get? dx = some (dictOf es n)) : InstAt s.heap x (instObj C dx) C (some (dictOf es n)) := ⟨hx, rfl, rfl, hdx⟩

/-- self.comp_select_list -/
theorem Ev.attrKeys {o : Expr} {pos : Pos} {ds : List D} (W : Wo prog w H mg mb) (x : Ev prog w H A a ρ O o (.keys ds))
    (he : eval (.Attribute o "comp_select_list" pos) a.env = (do let ov ← eval o a.env; standAt pos.atName; let r ← holding [ov] (getAttr ov "comp_select_list" true); letTemporaryGo o ov r; pure r) := by with_unfolding_all rfl) : Ev prog w H A a ρ O (.Attribute o "comp_select_list" pos) (.list ds) :=
  fun T => Tr.of fun s R K hR => by
    refine Attribute_any_ ((x T).use K fun v h1 tk1 q1 => ?_) he
    have X := q1.inK W
    obtain ⟨φ, m, q⟩ := id q1
    have hq := q.temps _ (.head _)
    obtain ⟨ax, dx, hh, t, u, n, rfl, e1, e2, r⟩ := hq.inv
    · have hu : ∃ l, u = .ref l := let ⟨l, _, _, e, _⟩ := r.inv; ⟨l, e⟩
      obtain ⟨l, rfl⟩ := hu
      refine get_value (s := { s with heap := h1, toks := tk1 }) X (inst_at (q.sub _ _ e1) (q.sub _ _ e2)) (by rfl) (v := .ref l) (by rfl) (by rfl) (hR _ h1 _ ⟨φ, m, { q with temps := ?_ }⟩)
      intro p hp
      rcases List.mem_cons.mp hp with rfl | hp
      · exact r
      · exact q.temps p (.tail _ hp)
/-- self.useragents -/
theorem Ev.attrEnt {o : Expr} {pos : Pos} {ds : List D} (W : Wo prog w H mg mb) (x : Ev prog w H A a ρ O o (.ent ds))
    (he : eval (.Attribute o "useragents" pos) a.env = (do let ov ← eval o a.env; standAt pos.atName; let r ← holding [ov] (getAttr ov "useragents" true); letTemporaryGo o ov r; pure r) := by with_unfolding_all rfl) : Ev prog w H A a ρ O (.Attribute o "useragents" pos) (.list ds) :=
  fun T => Tr.of fun s R K hR => by
    refine Attribute_any_ ((x T).use K fun v h1 tk1 q1 => ?_) he
    have X := q1.inK W
    obtain ⟨φ, m, q⟩ := id q1
    have hq := q.temps _ (.head _)
    obtain ⟨ax, dx, g1, g2, g3, g4, t1, t2, t3, t4, u1, u2, u3, u4, n, rfl, e1, e2, r⟩ := hq.inv
    · have hu : ∃ l, u1 = .ref l := let ⟨l, _, _, e, _⟩ := r.inv; ⟨l, e⟩
      obtain ⟨l, rfl⟩ := hu
      refine get_value (s := { s with heap := h1, toks := tk1 }) X (inst_at (q.sub _ _ e1) (q.sub _ _ e2)) (by rfl) (v := .ref l) (by rfl) (by rfl) (hR _ h1 _ ⟨φ, m, { q with temps := ?_ }⟩)
      intro p hp
      rcases List.mem_cons.mp hp with rfl | hp
      · exact r
      · exact q.temps p (.tail _ hp)

/-- o.m(args): a method of an object -/
theorem Ev.methI {pl : Sem Bool} {o e : Expr} {es : List Expr} {name : Str} {ap pos : Pos} {f : Addr} {d0 d : D} {ds : List D} (W : Wo prog w H mg mb) (y : Ev prog w H A a ρ O o d0)
    (hg : ∀ (φ : FM) (v : Value) (s : Shared) (Q : Value × List Value → Shared → Prop), (hd.heap_1 w.params).In s.heap → (∀ b o, φ b = some o → s.heap.get? b = some o) → Rd prog w φ v d0 → Q (.ref f, [v]) s → wpAny (model prog w) A (getMethod v name pl) Q (fun _ _ => False) s)
    (hk : keepIn (hd.heap_1 w.params) (.ref f) = true)
    (args : EvL prog w H A a ρ O (e :: es) ds) (hf : PL prog w H A (fun vs => call (.ref f) vs) (d0 :: ds) d)
    (hs : starEach (e :: es) a.env = (false, eval e a.env) :: starEach es a.env := by rfl) (hp : (backTo pos (starEach es a.env)).any (·.1) = false := by rfl)
    (he : eval (.Call (.Attribute o name ap) (e :: es) [] pos) a.env = (do let ov ← eval o a.env; standAt ap.atName; let (f, first) ← holding [ov] (getMethod ov name pl); callWith pos f first (backTo pos (starEach (e :: es) a.env)) []) := by rfl) :
    Ev prog w H A a ρ O (.Call (.Attribute o name ap) (e :: es) [] pos) d :=
  fun T => Tr.of fun s R K hR => by
    refine MethodCall_ ((y T).use K fun v h1 tk1 q1 => ?_) he
    have X := q1.inK W
    obtain ⟨φ, m, q⟩ := id q1
    refine hg φ v _ _ X q.sub (q.temps _ (.head _)) ?_
    refine callWith_K (h₀ := h1) (s := { s with heap := h1, toks := tk1 }) X hk ((args pos _).use (s := { s with heap := h1, toks := tk1 }) q1 fun vs h2 tk2 q2 => ⟨q2.2.inK W, ?_⟩) hs hp
    exact (hf a ρ O T (v :: vs) (by rw [List.length_cons, q2.1, List.length_cons])).use (s := { s with heap := h2, toks := tk2 }) (q2.2.sub fun p hp => by
      rw [List.zip_cons_cons, List.cons_append] at hp
      rcases List.mem_cons.mp hp with rfl | hp
      · exact List.mem_append_right _ (.head _)
      · rcases List.mem_append.mp hp with hp | hp
        · exact List.mem_append_left _ hp
        · exact List.mem_append_right _ (.tail _ hp)) fun r h3 tk3 q3 => hR r h3 tk3 q3
end
end Mine

namespace Mine

section
variable {prog : Program} {w : World} {H : Heap} {A : Around} {mg mb : Str → Option Value}

noncomputable def keyD (c : Int × Int) : D := .tup [.int c.1, .int c.2]
noncomputable def difF (l r : List Int) (c : Int × Int) : Bool := l.getD c.1.toNat 0 != r.getD c.1.toNat 0
noncomputable def cmpOf (cs : List (Int × Int)) (l r : List Int) : Int := match cs.find? (difF l r) with | some c => if l.getD c.1.toNat 0 < r.getD c.1.toNat 0 then -c.2 else c.2 | none => 0

theorem C_compare {cs : List (Int × Int)} {l r : List Int} (hc : ∀ c ∈ cs, 0 ≤ c.1 ∧ c.1 < 3) (hl : l.length = 3) (hr : r.length = 3) (W : Wo prog w H mg mb) (R : Room A 1) :
    PL prog w H A (fun vs => call (.ref 42) vs) [.keys (cs.map keyD), ptD l, ptD r] (.int (cmpOf cs l r)) := by
  refine PL.fnR (f := 42) (xs := ["self", "left", "right"]) W R rfl rfl (by rfl) rfl rfl (bind3 fun _ _ _ => rfl) rfl (by decide) (by decide) (by decide) rfl rfl fun A L Φ h₀ R => ?_
  refine ex_forR cs keyD (difF l r) (fun c => .int (if l.getD c.1.toNat 0 < r.getD c.1.toNat 0 then -c.2 else c.2)) (fun _ => [("self", .val (.keys (cs.map keyD))), ("left", .val (ptD l)), ("right", .val (ptD r))]) (fun _ => []) (EvIt.of (Ev.attrKeys W (Ev.name rfl)) (Itr.list R.hh)) ⟨rfl, rfl, rfl, trivial⟩ rfl
    (fun i c hc => Asg.tuple R.hh (AsgL.cons (Asg.nameL (.inl rfl)) (AsgL.cons (Asg.nameL (.inl rfl)) AsgL.nil)) rfl rfl) (fun i c hci Oz T => ?_) (fun c hf => ?_) (fun hf T => ?_)
  · have h3 := hc c (List.mem_of_getElem? hci)
    have e : difF l r c = (l.getD c.1.toNat 0 != r.getD c.1.toNat 0) := rfl
    rw [e]
    refine execs_next (ex_assign (Ev.item rfl (Ev.name rfl) h3.1 (by omega) (by omega)) (.inl rfl)) ?_
    refine execs_next (ex_assign (Ev.item rfl (Ev.name rfl) h3.1 (by omega) (by omega)) (.inl rfl)) ?_
    generalize l.getD c.1.toNat 0 = u
    generalize r.getD c.1.toNat 0 = v
    refine ex_ifRet (d := .int (-c.2)) (Tt.compare (Ev.name rfl) (Ev.name rfl) P2.ltI) (fun hb => execs_ret (ex_return (Ev.neg (Ev.name rfl)))) (fun hb => ?_) (fun f h hb k => .inr ⟨?_, ?_⟩)
    · have hb' : ¬ u < v := of_decide_eq_false hb
      refine ex_ifRet (d := .int c.2) (Tt.compare (Ev.name rfl) (Ev.name rfl) P2.gtI) (fun hb => execs_ret (ex_return (Ev.name rfl))) (fun hb2 => execs_nil fun h k => .inl ⟨?_, .inl rfl, _, ⟨rfl, rfl, rfl, trivial⟩, k⟩) (fun f h hb2 k => .inr ⟨?_, ?_⟩)
      · have hb2' : ¬ v < u := of_decide_eq_false hb2
        have : u = v := by omega
        simp [this]
      · have hb2' : v < u := of_decide_eq_true hb2
        have : u ≠ v := by omega
        simp [this]
      · rw [if_neg hb']; exact k
    · have hb' : u < v := of_decide_eq_true hb
      have : u ≠ v := by omega
      simp [this]
    · have hb' : u < v := of_decide_eq_true hb
      rw [if_pos hb']; exact k
  · unfold cmpOf; rw [hf]
  · have : cmpOf cs l r = 0 := by unfold cmpOf; rw [hf]
    rw [this]
    exact execs_ret (ex_return Ev.int)

theorem ex_ifMix {a : Act} {ρ : Rho} {O : List (Addr × OD)} {T : List (Value × D)} {test : Expr} {body : List Stmt} {pos : Pos} {b q : Bool} {d : D} {l : List (Str × B)} (x : Tt prog w H A a ρ O test b)
    (y : b = true → Tr prog w A (execs body a.env) (St prog w H a ρ O T) (fun f h => (q = false ∧ f = .next ∧ ∃ ρ', AllR ρ' l ∧ St prog w H a ρ' O T h) ∨ (q = true ∧ RetP prog w H a d f h)))
    (z : b = false → q = false ∧ AllR ρ l) : Tr prog w A (execs [.If test body [] pos] a.env) (St prog w H a ρ O T) (fun f h => (q = false ∧ (f = .next ∨ f = .cont) ∧ ∃ ρ', AllR ρ' l ∧ St prog w H a ρ' O T h) ∨ (q = true ∧ RetP prog w H a d f h)) := by
  refine execs_cons (M := fun f h => (q = false ∧ f = .next ∧ ∃ ρ', AllR ρ' l ∧ St prog w H a ρ' O T h) ∨ (q = true ∧ RetP prog w H a d f h)) (ex_if x y (fun hb => execs_nil fun h k => .inl ⟨(z hb).1, rfl, ρ, (z hb).2, k⟩)) (Tr.of fun s Q hP hQ => ?_) (fun f h hf k => ?_)
  · rcases hP with ⟨h1, _, ρ', h2, h3⟩ | ⟨_, v, _, _, _, e, _⟩
    · exact wpAny_execs_nil (hQ _ _ s.toks (.inl ⟨h1, .inl rfl, ρ', h2, h3⟩))
    · cases e
  · rcases k with ⟨_, e, _⟩ | k
    · exact absurd e hf
    · exact .inr k

noncomputable def inStr (y x : Str) : Bool := !(Builtin.Str.occurrences x y 0 x.length 1).isEmpty
theorem C_appNone {ags : List Str} (W : Wo prog w H mg mb) (R : Room A 1) : PL prog w H A (fun vs => call (.ref 91) vs) [.ent (ags.map .str), .none] (.bool (ags.contains (one 42))) := by
  refine PL.fnR (f := 91) (xs := ["self", "useragent"]) W R rfl rfl (by rfl) rfl rfl (bind2 fun _ _ => rfl) rfl (by decide) (by decide) (by decide) rfl rfl fun A L Φ h₀ R => ?_
  refine execs_ret (ex_if (b := true) (Tt.compare (Ev.name rfl) Ev.noneC P2.isNN) (fun _ => execs_stop (ex_return (Ev.cast (Ev.compare (d1 := .str (one 42)) Ev.str (Ev.attrEnt W (Ev.name rfl)) (P2.inL (fun y => unStr y == one 42) (eq_str _ _) R.u2)) ?_)) fun _ => not_ret) (fun h => nomatch h))
  rw [any_str]
noncomputable def appl (ags : List Str) (u : Str) : Bool := ags.any fun ag => ag != one 42 && inStr (Txt.lower ag) u
theorem C_appStr {ags : List Str} {x u : Str} (hx : x.length ≤ 100000) (hu : (Txt.split x (one 47))[0]? = some u) (hul : u.length ≤ 100000) (hag : ∀ ag ∈ ags, ag.length ≤ 100000) (W : Wo prog w H mg mb) (R : Room A 1) :
    PL prog w H A (fun vs => call (.ref 91) vs) [.ent (ags.map .str), .str x] (.bool (appl ags (Txt.lower u))) := by
  have hsl : sizeLine = 16777216 := rfl
  refine PL.fnR (f := 91) (xs := ["self", "useragent"]) W R rfl rfl (by rfl) rfl rfl (bind2 fun _ _ => rfl) rfl (by decide) (by decide) (by decide) rfl rfl fun A L Φ h₀ R => ?_
  refine execs_next (ex_if (b := false) (Tt.compare (Ev.name rfl) Ev.noneC P2.isN) (fun h => nomatch h) fun _ => execs_nil fun g k => ⟨rfl, k⟩) ?_
  refine execs_next (ex_assign (d := .str (Txt.lower u)) (Ev.meth0 (Ev.sub (d := .str u) (Ev.meth1 (Ev.name rfl) (d1 := .str (one 47)) Ev.str (fun t s Q h => GM.split h) (P2.split (by decide) (by omega))) Ev.int HasItem.list (P2.itemL (by decide) (by decide) ?_)) (fun t s Q h => GM.lower h) (P1.lower' (x := u) (by omega))) (.inl rfl)) ?_
  · rw [List.getElem?_map]
    show Option.map _ (Txt.split x (one 47))[0]? = _
    rw [hu]; rfl
  refine ex_forR ags D.str (fun ag => ag != one 42 && inStr (Txt.lower ag) (Txt.lower u)) (fun _ => .bool true) (fun _ => [("self", .val (.ent (ags.map .str))), ("useragent", .val (.str (Txt.lower u)))]) (fun _ => []) (EvIt.of (Ev.attrEnt W (Ev.name rfl)) (Itr.list R.hh)) ⟨rfl, rfl, trivial⟩ rfl
    (fun i c hc => Asg.nameL (.inl rfl)) (fun i ag hci Oz T => ?_) (fun c hf => ?_) (fun hf T => ?_)
  · have hal := hag ag (List.mem_of_getElem? hci)
    refine ex_ifMix (Tt.compare (Ev.name rfl) Ev.str P2.neS) (fun hb => ?_) (fun hb => ?_)
    · have hb' : (ag != one 42) = true := hb
      rw [hb', Bool.true_and]
      refine execs_next (ex_assign (d := .str (Txt.lower ag)) (Ev.meth0 (Ev.name rfl) (fun t s Q h => GM.lower h) (P1.lower' (x := ag) (by omega))) (.inl rfl)) ?_
      exact ex_ifRet (b := inStr (Txt.lower ag) (Txt.lower u)) (Tt.compare (Ev.name rfl) (Ev.name rfl) P2.inS) (fun hb => execs_ret (ex_return Ev.bool)) (fun hb => execs_nil fun h k => .inl ⟨hb, rfl, _, ⟨rfl, rfl, trivial⟩, k⟩) (fun f h hb k => .inr ⟨hb, k⟩)
    · have hb' : (ag != one 42) = false := hb
      rw [hb', Bool.false_and]
      exact ⟨rfl, rfl, rfl, trivial⟩
  · have : appl ags (Txt.lower u) = true := by
      unfold appl
      rw [List.any_eq_true]
      exact ⟨c, List.mem_of_find?_eq_some hf, List.find?_some (p := fun ag => ag != one 42 && inStr (Txt.lower ag) (Txt.lower u)) hf⟩
    rw [this]
  · have : appl ags (Txt.lower u) = false := by
      unfold appl
      rw [List.any_eq_false]
      intro y hy
      exact List.find?_eq_none.mp hf y hy
    rw [this]
    exact execs_ret (ex_return Ev.bool)
end
end Mine

namespace Mine

section
variable {prog : Program} {w : World} {H : Heap} {A : Around} {a : Act} {ρ : Rho} {O : List (Addr × OD)} {T : List (Value × D)} {mg mb : Str → Option Value}

theorem execs_one {st : Stmt} {env : Env} {P : Heap → Prop} {Q : Flow → Heap → Prop} (x : Tr prog w A (exec st env) P Q) : Tr prog w A (execs [st] env) P Q :=
  execs_cons x (execs_nil fun _ q => q) fun _ _ _ q => q
theorem ex_while {ι : Type} {test : Expr} {body : List Stmt} {pos : Pos} {env : Env} (P : ι → Heap → Prop) (μ : ι → Nat) (b : ι → Bool) (ht : ∀ i, Tr prog w A (isTrue test env (eval test env)) (P i) (fun v h => v = b i ∧ P i h))
    (hb : ∀ i, b i = true → Tr prog w A (execs body env) (P i) (fun f h => f = .next ∧ ∃ j, μ j < μ i ∧ P j h)) (i : ι) : Tr prog w A (exec (.While test body [] pos) env) (P i) (fun f h => f = .next ∧ ∃ j, b j = false ∧ P j h) :=
  Tr.of fun s R K hR => by
    refine wpAny_While (codeAny_whileLoop (fun n s' => ∃ h' tk j, s' = { s with heap := h', toks := tk } ∧ n = μ j ∧ P j h') ?_ (μ i) ⟨s.heap, s.toks, i, rfl, rfl, K⟩)
    rintro n s' ⟨h', tk, j, rfl, rfl, K⟩
    refine (ht j).use (s := { s with heap := h', toks := tk }) K fun v h1 tk1 q1 => ?_
    obtain ⟨rfl, q1⟩ := q1
    cases hbj : b j with
    | true =>
      simp only [if_true]
      refine (hb j hbj).use (s := { s with heap := h1, toks := tk1 }) q1 fun f h2 tk2 q2 => ?_
      obtain ⟨rfl, k, hk, q2⟩ := q2
      exact ⟨μ k, hk, h2, tk2, k, rfl, rfl, q2⟩
    | false =>
      simp only [Bool.false_eq_true, if_false]
      exact wpAny_execs_nil (hR _ h1 tk1 ⟨rfl, j, hbj, q1⟩)

theorem ex_whileS {ι : Type} {test : Expr} {body : List Stmt} {pos : Pos} (l : ι → List (Str × B)) (μ : ι → Nat) (b : ι → Bool) (ht : ∀ i, Tt prog w H A a (rl (l i)) O test (b i))
    (hb : ∀ i, b i = true → Tr prog w A (execs body a.env) (St prog w H a (rl (l i)) O T) (fun f h => f = .next ∧ ∃ j ρ', μ j < μ i ∧ AllR ρ' (l j) ∧ St prog w H a ρ' O T h)) (i : ι) (h0 : AllR ρ (l i)) {l' : List (Str × B)} (hend : ∀ j, b j = false → AllR (rl (l j)) l') :
    Tr prog w A (exec (.While test body [] pos) a.env) (St prog w H a ρ O T) (Nx (St prog w H a (rl l') O T)) := by
  refine Tr.mono (ex_while (fun i => St prog w H a (rl (l i)) O T) μ b (fun i => ht i T) (fun i hi => (hb i hi).post fun f h ⟨h1, j, ρ', h2, h3, h4⟩ => ⟨h1, j, h2, h4.toRl _ h3⟩) i) (fun h k => k.toRl _ h0) ?_
  rintro f h ⟨rfl, j, hj, k⟩
  exact ⟨rfl, k.toRl _ (hend j hj)⟩

/-- x, y = e, f -/
theorem ex_assign_swap2 {x y : Str} {px py tp pos : Pos} {k : Nat} {value : Expr} {d1 d2 : D} (hh : A.handled = none) (e : Ev prog w H A a ρ O value (.tup [d1, d2])) (hx : Storable a x) (hy : Storable a y)
    (hs : swapsWithSole [.Tuple [.Name x px, .Name y py] k tp] value pos.line a.env = pure false := by rfl) (hw : swappedStores [.Tuple [.Name x px, .Name y py] k tp] value a.env = pure (some [x, y]) := by rfl) :
    Tr prog w A (exec (.Assign [.Tuple [.Name x px, .Name y py] k tp] value pos) a.env) (St prog w H a ρ O T) (Nx (St prog w H a (upd (upd ρ y (.val d2)) x (.val d1)) O T)) :=
  Tr.of fun s R K hR => PyProof.Rows.Assign_Tuple_swapped ((e T).use K fun v h1 tk1 q1 => by
    obtain ⟨n, vs, kk, rfl, ht, hvl, q2⟩ := q1.tup (.head _)
    obtain ⟨v1, v2, rfl⟩ := len2 hvl
    · refine PyProof.Rows.unpackItems_tuple (s := { s with heap := h1, toks := tk1 }) (items := #[v1, v2]) hh ⟨_, ht, rfl, kk, rfl⟩ fun h2 he => ?_
      have q3 := q2.keep (h' := h2) fun b o e => he b o (Nat.ne_of_lt (Heap.lt_size e)) e
      show wpAny _ _ (do holding [v1] (bindName a.env y v2); holding [] (bindName a.env x v1); pure ()) _ _ _
      refine wpAny_bind (wpAny_holding (wpAny_bindName (storeB (b := .val d2) q3 hy (fun φ hT => hT _ (.tail _ (.head _))) fun h3 tk3 q4 => ?_)))
      refine wpAny_bind (wpAny_holding (wpAny_bindName (storeB (b := .val d1) q4 hx (fun φ hT => hT _ (.head _)) fun h4 tk4 q5 => ?_)))
      exact wpAny_pure (hR _ h4 tk4 ⟨rfl, q5.sub fun p hp => .tail _ (.tail _ (.tail _ hp))⟩)) hs hw

/-! the report -/
noncomputable def bs (lt : Nat → Bool) : Nat → Nat → Nat → Nat
  | 0, lo, _ => lo
  | f + 1, lo, hi => if lo < hi then (if lt ((lo + hi) / 2) then bs lt f lo ((lo + hi) / 2) else bs lt f ((lo + hi) / 2 + 1) hi) else lo
theorem bs_more (lt : Nat → Bool) : ∀ f lo hi, hi - lo ≤ f → bs lt (f + 1) lo hi = bs lt f lo hi
  | 0, lo, hi, h => by
    unfold bs
    have : ¬ lo < hi := by omega
    rw [if_neg this]
  | f + 1, lo, hi, h => by
    rw [bs]
    conv => rhs; rw [bs]
    by_cases hl : lo < hi
    · rw [if_pos hl, if_pos hl, bs_more lt f _ _ (by omega), bs_more lt f _ _ (by omega)]
    · rw [if_neg hl, if_neg hl]
theorem bs_le (lt : Nat → Bool) : ∀ f lo hi, lo ≤ hi → bs lt f lo hi ≤ hi
  | 0, lo, hi, h => h
  | f + 1, lo, hi, h => by
    rw [bs]
    split
    · split
      · exact Nat.le_trans (bs_le lt f _ _ (by omega)) (by omega)
      · exact bs_le lt f _ _ (by omega)
    · exact h
noncomputable def insR (cs : List (Int × Int)) (rep : List (List Int)) (p : List Int) : List (List Int) :=
  let k := bs (fun m => decide (cmpOf cs p (rep.getD m []) < 0)) rep.length 0 rep.length
  rep.take k ++ [p] ++ rep.drop k
noncomputable def repAt (cs : List (Int × Int)) (ps : List (List Int)) (n : Nat) : List (List Int) := (ps.take n).foldl (insR cs) []
theorem insR_len (cs : List (Int × Int)) (rep : List (List Int)) (p : List Int) : (insR cs rep p).length = rep.length + 1 := by
  unfold insR
  simp only [List.length_append, List.length_take, List.length_drop, List.length_singleton]
  have := bs_le (fun m => decide (cmpOf cs p (rep.getD m []) < 0)) rep.length 0 rep.length (Nat.zero_le _)
  omega
theorem insR_mem {cs : List (Int × Int)} {rep : List (List Int)} {p q : List Int} : q ∈ insR cs rep p ↔ q ∈ rep ∨ q = p := by
  unfold insR
  simp only [List.mem_append, List.mem_singleton]
  conv => rhs; rw [← List.take_append_drop (bs (fun m => decide (cmpOf cs p (rep.getD m []) < 0)) rep.length 0 rep.length) rep, List.mem_append]
  constructor
  · rintro ((h | h) | h)
    · exact .inl (.inl h)
    · exact .inr h
    · exact .inl (.inr h)
  · rintro ((h | h) | h)
    · exact .inl (.inl h)
    · exact .inr h
    · exact .inl (.inr h)
theorem repAt_succ {cs : List (Int × Int)} {ps : List (List Int)} {n : Nat} {p : List Int} (h : ps[n]? = some p) : repAt cs ps (n + 1) = insR cs (repAt cs ps n) p := by
  unfold repAt
  rw [List.take_add_one, h, List.foldl_append]; rfl
theorem repAt_len (cs : List (Int × Int)) (ps : List (List Int)) : ∀ n, n ≤ ps.length → (repAt cs ps n).length = n
  | 0, _ => rfl
  | n + 1, h => by rw [repAt_succ (List.getElem?_eq_getElem h), insR_len, repAt_len cs ps n (Nat.le_of_succ_le h)]
theorem repAt_mem (cs : List (Int × Int)) (ps : List (List Int)) : ∀ n, n ≤ ps.length → ∀ q, q ∈ repAt cs ps n ↔ q ∈ ps.take n
  | 0, _, q => by simp [repAt]
  | n + 1, h, q => by
    rw [repAt_succ (List.getElem?_eq_getElem h), insR_mem, repAt_mem cs ps n (Nat.le_of_succ_le h), List.take_add_one, List.getElem?_eq_getElem h]
    simp only [Option.toList_some, List.mem_append, List.mem_singleton]

theorem meth_compare {pl : Sem Bool} {ds : List D} {φ : FM} {v : Value} {s : Shared} {Q : Value × List Value → Shared → Prop} (X : (hd.heap_1 w.params).In s.heap) (hs : ∀ b o, φ b = some o → s.heap.get? b = some o) (r : Rd prog w φ v (.keys ds)) (hQ : Q (.ref 42, [v]) s) :
    wpAny (model prog w) A (getMethod v "compare" pl) Q (fun _ _ => False) s := by
  obtain ⟨ax, dx, hh, t, u, n, rfl, e1, e2, r⟩ := r.inv
  exact method_fn X (inst_at (hs _ _ e1) (hs _ _ e2)) (by rfl) (by rfl) (by rfl) (by rfl) (by rfl) hQ
theorem mid_int (lo hi : Nat) : (((lo : Nat) : Int) + ((hi : Nat) : Int)).fdiv 2 = (((lo + hi) / 2 : Nat) : Int) := by
  rw [Int.fdiv_eq_ediv_of_nonneg _ (by decide)]; omega
theorem mid_lt {lo hi n : Nat} (h : lo < hi) (k : hi ≤ n) : (lo + hi) / 2 < n := by omega
theorem mid_lo {lo hi : Nat} (h : lo < hi) : lo ≤ (lo + hi) / 2 := by omega
theorem mid_hi {lo hi : Nat} (h : lo < hi) : (lo + hi) / 2 + 1 ≤ hi := by omega
theorem mid_m1 {lo hi : Nat} (h : lo < hi) : (lo + hi) / 2 - lo < hi - lo := by omega
theorem mid_m2 {lo hi : Nat} (h : lo < hi) : hi - ((lo + hi) / 2 + 1) < hi - lo := by omega
theorem take_len {α : Type} {l : List α} {n m : Nat} (h : l.length ≤ m) : (l.take n).length ≤ m := Nat.le_trans (List.length_take_le' _ _) h
theorem drop_le {α : Type} {l : List α} {n m : Nat} (h : l.length ≤ m) : (l.drop n).length ≤ m := by rw [List.length_drop]; exact Nat.le_trans (Nat.sub_le _ _) h
theorem sz1 {a : D} : [a].length ≤ sizeLine := by show 1 ≤ 2 ^ 24; decide
theorem C_report {cs : List (Int × Int)} {ps : List (List Int)} (hc : ∀ c ∈ cs, 0 ≤ c.1 ∧ c.1 < 3) (hps : ∀ p ∈ ps, p.length = 3) (hlen : ps.length ≤ 100000) (W : Wo prog w H mg mb) (R : Room A 2) :
    PL prog w H A (fun vs => call (.ref 144) vs) [ptsD ps, .keys (cs.map keyD)] (ptsD (repAt cs ps ps.length)) := by
  refine PL.fnR (f := 144) (xs := ["products", "keys"]) W R rfl rfl (by rfl) rfl rfl (bind2 fun _ _ => rfl) rfl (by decide) (by decide) (by decide) rfl rfl fun A L Φ h₀ R => ?_
  refine execs_next (ex_assign (Ev.list (ds := []) EvL.nil) (.inl rfl)) ?_
  refine execs_next (ex_forN ps ptD (fun n => [("products", .val (ptsD ps)), ("keys", .val (.keys (cs.map keyD))), ("report", .val (ptsD (repAt cs ps n)))]) (fun _ => []) (EvIt.of (Ev.name rfl) (Itr.list R.hh)) ⟨rfl, rfl, rfl, trivial⟩ rfl (fun i p hp => Asg.nameL (.inl rfl)) fun i p hp Oz T => ?_) ?_
  · have hi := (List.getElem?_eq_some_iff.mp hp).1
    have hp3 := hps p (List.mem_of_getElem? hp)
    have hrl := repAt_len cs ps i (Nat.le_of_lt hi)
    have hr3 : ∀ q ∈ repAt cs ps i, q.length = 3 := fun q hq => hps q (List.mem_of_mem_take ((repAt_mem cs ps i (Nat.le_of_lt hi) q).mp hq))
    have hsucc := repAt_succ (cs := cs) hp
    have hrl5 : (repAt cs ps i).length ≤ 100000 := by rw [hrl]; exact Nat.le_trans (Nat.le_of_lt hi) hlen
    clear hrl
    generalize repAt cs ps i = rep at hrl5 hr3 hsucc
    refine execs_next (ex_assign_swap2 R.hh (Ev.tuple (EvL.cons Ev.int (EvL.cons (Ev.callB W rfl rfl rfl (by decide) (EvL.cons (Ev.name rfl) EvL.nil) (PL.of1 (P1.len (ds := rep.map ptD) (len_map_lt hrl5)))) EvL.nil)) sz2) (.inl rfl) (.inl rfl)) ?_
    have hpos : ∀ q : Nat × Nat, q.1 ≤ q.2 → q.2 ≤ rep.length → (q.1 < q.2) → bs (fun m => decide (cmpOf cs p (rep.getD m []) < 0)) rep.length q.1 q.2 = if decide (cmpOf cs p (rep.getD ((q.1 + q.2) / 2) []) < 0) = true then bs (fun m => decide (cmpOf cs p (rep.getD m []) < 0)) rep.length q.1 ((q.1 + q.2) / 2) else bs (fun m => decide (cmpOf cs p (rep.getD m []) < 0)) rep.length ((q.1 + q.2) / 2 + 1) q.2 := by
      intro q h1 h2 h3
      rw [← bs_more _ rep.length q.1 q.2 (Nat.le_trans (Nat.sub_le _ _) h2), bs, if_pos h3]
    have hend : ∀ q : Nat × Nat, ¬ q.1 < q.2 → bs (fun m => decide (cmpOf cs p (rep.getD m []) < 0)) rep.length q.1 q.2 = q.1 := by
      intro q h
      cases rep.length with
      | zero => rfl
      | succ f => rw [bs, if_neg h]
    have hins : insR cs rep p = rep.take (bs (fun m => decide (cmpOf cs p (rep.getD m []) < 0)) rep.length 0 rep.length) ++ [p] ++ rep.drop (bs (fun m => decide (cmpOf cs p (rep.getD m []) < 0)) rep.length 0 rep.length) := rfl
    have hposle := bs_le (fun m => decide (cmpOf cs p (rep.getD m []) < 0)) rep.length 0 rep.length (Nat.zero_le _)
    generalize hposE : bs (fun m => decide (cmpOf cs p (rep.getD m []) < 0)) rep.length 0 rep.length = pos at hins hposle
    refine execs_next (ex_whileS (l' := [("products", .val (ptsD ps)), ("keys", .val (.keys (cs.map keyD))), ("report", .val (ptsD rep)), ("product", .val (ptD p)), ("low", .val (.int (pos : Nat)))]) (ι := { q : Nat × Nat // q.1 ≤ q.2 ∧ q.2 ≤ rep.length ∧ bs (fun m => decide (cmpOf cs p (rep.getD m []) < 0)) rep.length q.1 q.2 = pos })
        (fun q => [("products", .val (ptsD ps)), ("keys", .val (.keys (cs.map keyD))), ("report", .val (ptsD rep)), ("product", .val (ptD p)), ("low", .val (.int (q.1.1 : Nat))), ("high", .val (.int (q.1.2 : Nat)))]) (fun q => q.1.2 - q.1.1) (fun q => decide (((q.1.1 : Nat) : Int) < ((q.1.2 : Nat) : Int)))
        (fun q => Tt.compare (Ev.name rfl) (Ev.name rfl) P2.ltI) (fun q hq => ?_) ⟨(0, rep.length), Nat.zero_le _, Nat.le_refl _, hposE⟩ ⟨rfl, rfl, rfl, rfl, rfl, ?_, trivial⟩ (fun q hq => ⟨rfl, rfl, rfl, rfl, ?_, trivial⟩)) ?_
    · obtain ⟨⟨lo, hi⟩, h1, h2, h3⟩ := q
      have hlt : lo < hi := Int.ofNat_lt.mp (of_decide_eq_true hq)
      have hp2 := hpos (lo, hi) h1 h2 hlt
      dsimp only at h1 h2 h3 hp2 ⊢
      rw [hp2] at h3
      have hmid := mid_int lo hi
      have hml : (lo + hi) / 2 < rep.length := mid_lt hlt h2
      have hq3 : (rep.getD ((lo + hi) / 2) []).length = 3 := by
        rw [List.getD_eq_getElem?_getD, List.getElem?_eq_getElem hml]
        exact hr3 _ (List.getElem_mem _)
      refine execs_next (ex_assign (d := .int (((lo + hi) / 2 : Nat) : Int)) (Ev.cast (Ev.binop (Ev.binop (Ev.name rfl) (Ev.name rfl) P2.add) Ev.int (P2.div (by decide) (by decide))) (congrArg D.int hmid)) (.inl rfl)) ?_
      refine execs_one (ex_if (Tt.compare (Ev.methI (pl := _) W (Ev.name rfl) (f := 42) (fun φ v s Q X hs hr hQ => meth_compare X hs hr hQ) (by rfl) (EvL.cons (Ev.name rfl) (EvL.cons (Ev.sub (d := ptD (rep.getD ((lo + hi) / 2) [])) (Ev.name rfl) (Ev.name rfl) HasItem.list (P2.itemL (nat0 _) (nat63 (Nat.le_trans (Nat.le_of_lt hml) hrl5)) ?_)) EvL.nil)) (C_compare hc hp3 hq3 W R)) Ev.int P2.ltI) (fun hb => ?_) (fun hb => ?_))
      · rw [Int.toNat_natCast, List.getElem?_map, List.getElem?_eq_getElem hml, List.getD_eq_getElem?_getD, List.getElem?_eq_getElem hml]; rfl
      · rw [if_pos hb] at h3
        exact execs_next (ex_assign (Ev.name rfl) (.inl rfl)) (execs_nil fun g k => ⟨rfl, ⟨(lo, (lo + hi) / 2), mid_lo hlt, Nat.le_of_lt hml, h3⟩, _, mid_m1 hlt, ⟨rfl, rfl, rfl, rfl, rfl, rfl, trivial⟩, k⟩)
      · rw [if_neg (by rw [hb]; simp)] at h3
        exact execs_next (ex_assign (Ev.binop (Ev.name rfl) Ev.int P2.add) (.inl rfl)) (execs_nil fun g k => ⟨rfl, ⟨((lo + hi) / 2 + 1, hi), mid_hi hlt, h2, h3⟩, _, mid_m2 hlt, ⟨rfl, rfl, rfl, rfl, rfl, rfl, trivial⟩, k⟩)
    · show some (B.val (.int ((rep.map ptD).length : Nat))) = _
      rw [List.length_map]
    · obtain ⟨⟨lo, hi⟩, h1, h2, h3⟩ := q
      have hq' : ¬ lo < hi := fun h => of_decide_eq_false hq (Int.ofNat_lt.mpr h)
      have e := hend (lo, hi) hq'
      dsimp only at h3 e
      rw [h3] at e
      show some (B.val (D.int ((lo : Nat) : Int))) = some (B.val (D.int ((pos : Nat) : Int)))
      rw [e]
    have e1 : pickL (rep.map ptD) none (some (pos : Int)) none = (rep.take pos).map ptD := by rw [pickL_map, pick_take]
    have e2 : pickL (rep.map ptD) (some (pos : Int)) none none = (rep.drop pos).map ptD := by rw [pickL_map, pick_drop]
    refine execs_next (ex_assign (d := ptsD (insR cs rep p)) (Ev.cast (Ev.binop (Ev.binop (Ev.sub (Ev.name rfl) (Ev.slice EvP.none (EvP.some (Ev.name rfl)) EvP.none) HasItem.list (P2.sliceL (by decide) (sl_map hrl5))) (Ev.list (ds := [ptD p]) (EvL.cons (Ev.name rfl) EvL.nil) sz1) (P2.addL ?_)) (Ev.sub (Ev.name rfl) (Ev.slice (EvP.some (Ev.name rfl)) EvP.none EvP.none) HasItem.list (P2.sliceL (by decide) (sl_map hrl5))) (P2.addL ?_)) ?_) (.inl rfl)) (execs_nil fun g k => ?_)
    · rw [e1]; exact sl_app (a := 100000) (b := 1) (len_map_le (take_len hrl5)) (Nat.le_refl 1)
    · rw [e1, e2]; exact sl_app (a := 100001) (b := 100000) (by rw [List.length_append]; exact Nat.add_le_add (len_map_le (b := 100000) (take_len hrl5)) (Nat.le_refl 1)) (len_map_le (drop_le hrl5))
    · rw [e1, e2, hins]
      show D.list _ = D.list _
      rw [List.map_append, List.map_append]; rfl
    · rw [← hsucc] at k
      exact ⟨.inl rfl, _, ⟨rfl, rfl, rfl, trivial⟩, k⟩
  · exact execs_ret (ex_return (Ev.name rfl))
end
end Mine

namespace Mine

section
variable {prog : Program} {w : World} {H : Heap} {A : Around} {a : Act} {ρ : Rho} {O : List (Addr × OD)} {T : List (Value × D)} {mg mb : Str → Option Value}

theorem weight_new (C : Addr) (rest : List Value) : (Code.builtin "type.__call__" ⟨.ref C :: rest, []⟩).weight = 1 := by
  with_unfolding_all rfl
theorem units_new (C : Addr) (rest : List Value) : (Code.builtin "type.__call__" ⟨.ref C :: rest, []⟩).cUnits = 1 := by
  with_unfolding_all rfl
theorem Room.under {n : Nat} (r : Room A (n + 1)) (C : Addr) (rest : List Value) : Room (A.under (.builtin "type.__call__" ⟨.ref C :: rest, []⟩)) n := by
  refine ⟨r.hh, ?_, ?_⟩
  · have := r.d
    show A.depth + (Code.builtin "type.__call__" ⟨.ref C :: rest, []⟩).weight + n < _
    rw [weight_new]; omega
  · have := r.u
    show A.units + (Code.builtin "type.__call__" ⟨.ref C :: rest, []⟩).cUnits + 3 * n + 80 < _
    rw [units_new]; omega

/-- a class of the text is called: its __init__ walked over the caller's heap -/
theorem new_call {C fI : Addr} {o : Obj} {fd : FuncData} {body : List Stmt} {vs : List Value} {binds : List (Str × Value)} {s : Shared} {Q : Value → Shared → Prop} {n : Nat} (X : (hd.heap_1 w.params).In s.heap) (hlim : s.heap.NoLimit) (r : Room A (n + 3))
    (hm : makesIn (hd.heap_1 w.params) C = true) (hi : findIn (hd.heap_1 w.params) (.ref C) "__init__" = some (some (.ref fI))) (hty : typeIn (hd.heap_1 w.params) (.ref fI) = some (.type "function"))
    (hl : (hd.heap_1 w.params).lookup fI = some o) (hdata : o.data = .func fd) (hcd : codeIn (hd.heap_1 w.params) fd.code fd.qualname = true) (hbody : fd.body = .stmts body) (hclo : fd.closure = [])
    (hbind : bindArgs fd ⟨.ref (s.heap.objs.size + 1) :: vs, []⟩ = pure binds) (hk : ∀ x ∈ binds, fd.scope.names.lookup x.1 = some .local) (hnc : cellsFrom 0 fd.scope.names [] = [])
    (h : ∀ (A' : Around) (L : Addr) (h₁ : Heap) (tk : Nat), Room A' n → Fr s.heap L h₁ (bindL (callEnvC fd L fI).kindOf binds fun _ => none) →
      News s.heap L h₁ [(s.heap.objs.size, dictOf [] 0), (s.heap.objs.size + 1, instObj C s.heap.objs.size)] →
      wpAny (model prog w) A' (execs body (callEnvC fd L fI)) (fun fl s' => fl = .next ∧ Q (.ref (s.heap.objs.size + 1)) s') (fun _ _ => False) { s with heap := h₁, toks := tk })
    (hco : fd.scope.isCoroutine = false := by rfl) (hgen : fd.scope.isGenerator = false := by rfl) (hkd : fd.scope.kind = .function := by rfl) :
    wpAny (model prog w) A (call (.ref C) vs) Q (fun _ _ => False) s := by
  obtain ⟨hh, g, d, t, os⟩ := s
  have r1 := r.under C vs
  have kp : ∀ b o, hh.get? b = some o → ((hh.push emptyDict).push (instObj C hh.objs.size)).get? b = some o := fun b o e => Heap.get?_push_of_some _ (Heap.get?_push_of_some _ e)
  have hx : ((hh.push emptyDict).push (instObj C hh.objs.size)).get? (hh.objs.size + 1) = some (instObj C hh.objs.size) := by
    have : (hh.push emptyDict).objs.size = hh.objs.size + 1 := Heap.size_push ..
    rw [← this]; exact Heap.get?_push_size _ rfl
  have hdx : ((hh.push emptyDict).push (instObj C hh.objs.size)).get? hh.objs.size = some emptyDict := Heap.get?_push_of_some _ (Heap.get?_push_size _ rfl)
  have hsz : ((hh.push emptyDict).push (instObj C hh.objs.size)).objs.size = hh.objs.size + 2 := by rw [Heap.size_push, Heap.size_push]
  have hcl : ∀ k, cellsFrom k fd.scope.names [] = [] := fun k => by
    have h1 := cellsFrom_names fd.scope.names k 0 [] [] rfl
    rw [hnc] at h1
    exact List.map_eq_nil_iff.mp h1
  refine wpAny_call (make_core (makes_of X hm) (looks_findIn X hi) (fun self => bind_fn X self hty) (.inl rfl) ?_)
  refine codeAny_call_cells r1.lt (kp _ _ (X _ _ hl)) hdata (hlim.keeps kp) (codeRec_of (fun a o e => kp _ _ (X a o e)) hcd) hbody hbind hclo (fun x hx => .inl (hk x hx)) ?_ hco hgen hkd
  intro s₁ Y
  obtain ⟨h₁, tk, rfl⟩ := Y.toInCall.same
  have kp2 := Y.toInCall.keep
  refine wpAny_mono (h _ _ h₁ tk ((r1.less (Nat.le_succ _)).deeper _) ⟨Y.toInCall.ns, fun b o e => kp2 b o (kp b o e), ?_⟩ ?_) (fun fl s' q => ?_) fun _ _ e => e.elim
  · show hh.objs.size ≤ ((hh.push emptyDict).push (instObj C hh.objs.size)).objs.size
    rw [hsz]; omega
  · have ne : ∀ k : Nat, k < hh.objs.size + 2 → k ≠ ((hh.push emptyDict).push (instObj C hh.objs.size)).objs.size := fun k hk => by rw [hsz]; exact Nat.ne_of_lt hk
    intro p hp
    rcases List.mem_cons.mp hp with rfl | hp
    · exact ⟨kp2 _ _ hdx, ne hh.objs.size (Nat.lt_add_of_pos_right (by decide)), fresh_none _⟩
    · rw [List.mem_singleton] at hp
      subst hp
      exact ⟨kp2 _ _ hx, ne (hh.objs.size + 1) (Nat.lt_succ_self _), fresh_ge (Nat.le_succ _)⟩
  · obtain ⟨rfl, q⟩ := q
    exact ⟨rfl, q⟩
end
end Mine

namespace Mine

section
variable {prog : Program} {w : World} {H : Heap} {A : Around} {a : Act} {ρ : Rho} {O : List (Addr × OD)} {T : List (Value × D)} {mg mb : Str → Option Value}

/-- self.x = e in an __init__ -/
theorem ex_setSelf {s : Shared} {env : Env} {h₀ : Heap} {L x dx C : Addr} {m : Str → Option Value} {es : List DictEntry} {n : Nat} {news : List (Addr × Obj)} {name : Str} {value : Expr} {px ap pos : Pos} {Q : Flow → Shared → Prop} {K : Frag} {v : Value} (henv : env.scope.kind = .function) (hL : env.locals = L) (hk : env.kindOf "self" = some .local) (hm : m "self" = some (.ref x))
    (_F : Fr h₀ L s.heap m) (X : K.In h₀) (hx : (x, instObj C dx) ∈ news) (hnx : ∀ p ∈ news, p.1 ≠ dx)
    (hs : findIn K (.ref C) "__setattr__" = some (some (.builtin "object.__setattr__"))) (hp : plainOver K C = true) (ht : takerIn K C name = some none) (hh : hasDictIn K C = true) (hl : (getL name es).isSome = true) (hz : es.length < 100)
    (hval : wpAny (model prog w) A (eval value env) (fun u s' => u = v ∧ ∃ h', s' = { s with heap := h' } ∧ Fr h₀ L h' m ∧ News h₀ L h' ((dx, dictOf es n) :: news)) (fun _ _ => False) s)
    (h : ∀ h' tk key hash, key = Value.str name (tk + 1) → Fr h₀ L h' m → News h₀ L h' ((dx, dictOf (putL name hash key v es) (putN name es n)) :: news) → Q .next { s with heap := h', toks := tk + 2 })
    (hsw : swapsWith value (some (.Attribute (.Name "self" px) name ap)) pos.line env = pure false := by rfl) :
    wpAny (model prog w) A (exec (.Assign [.Attribute (.Name "self" px) name ap] value pos) env) Q (fun _ _ => False) s := by
  refine plainObj_wpAny_Assign_Attribute (wpAny_mono hval (fun u s' hu => ?_) fun _ _ e => e) hsw
  obtain ⟨rfl, h1, rfl, F1, N1⟩ := hu
  refine wpAny_Name (wpAny_loadName_local henv hk (by rw [hL]; exact F1.ns) hm ?_) (by decide)
  refine set_dict (s := { s with heap := h1 }) F1 X N1 (inst_at (N1 _ (.tail _ hx)).1 (N1 _ (.head _)).1) rfl hs hp ht hh hl rfl (Upd.head hnx) ?_ fun h2 F2 N2 => h h2 s.toks _ _ rfl F2 N2
  have : ∀ es : List DictEntry, (putL name (PyData.keyHash w.params name) (.str name (s.toks + 1)) u es).length ≤ es.length + 1 := by
    intro es
    induction es with
    | nil => exact Nat.le_refl _
    | cons e r ih =>
      unfold putL
      split
      · exact Nat.le_succ _
      · exact Nat.succ_le_succ ih
  exact Nat.le_trans (this es) (by omega)

/-- TupleComp(l) -/
theorem P1.newKeys {ds : List D} {n : Nat} (W : Wo prog w H mg mb) (r : Room A (n + 3)) : P1 prog w H A (fun v => call (.ref 45) [v]) (.list ds) (.keys ds) := fun a ρ O T v => Tr.of fun s R K hR => by
  have X := K.inK W
  obtain ⟨φ, m, q⟩ := id K
  have hl := q.temps (v, .list ds) (.head _)
  refine new_call (C := 45) (fI := 35) (vs := [v]) (binds := [("self", .ref (s.heap.objs.size + 1)), ("comp_select_list", v)]) X (W.lim.keeps (q.wb.trans q.base)) r (by rfl) (by rfl) (by rfl) rfl rfl (by rfl) rfl rfl rfl (by intro x hx; simp at hx; rcases hx with rfl | rfl <;> rfl) (by rfl) fun A' L h₁ tk r' F N => ?_
  refine wpAny_execs_cons (ex_setSelf (v := v) (C := 45) (K := hd.heap_1 w.params) (es := []) (n := 0) (news := [(s.heap.objs.size + 1, instObj 45 s.heap.objs.size)]) rfl rfl rfl rfl F X (.head _) (fun p hp => ?_) (by rfl) (by rfl) (by rfl) (by rfl) (by rfl) (by decide) ?_ fun h' tk' key hash hkey F' N' => ?_)
  · rw [List.mem_singleton] at hp; subst hp; exact Nat.succ_ne_self _
  · exact wpAny_Name (wpAny_loadName_local rfl rfl F.ns rfl ⟨rfl, h₁, rfl, F, N⟩) (by decide)
  · refine wpAny_execs_nil ⟨rfl, ?_⟩
    have h1 := (N' _ (.head _))
    have h2 := (N' _ (.tail _ (.head _)))
    refine hR _ h' _ ?_
    have q' := q.alloc (h' := h') F'.keep (fun b => if b = s.heap.objs.size then some (dictOf (putL "comp_select_list" hash key v []) (putN "comp_select_list" [] 0)) else if b = s.heap.objs.size + 1 then some (instObj 45 s.heap.objs.size) else none) (by
      intro b o e
      split at e
      · rename_i hb; cases e; subst hb; exact ⟨fresh_none _, h1.1⟩
      · split at e
        · rename_i hb; cases e; subst hb; exact ⟨fresh_ge (Nat.le_succ _), h2.1⟩
        · cases e)
    refine ⟨_, m, { q' with temps := ?_ }⟩
    intro p hp
    rcases List.mem_cons.mp hp with rfl | hp
    · subst hkey
      refine .keys (dx := s.heap.objs.size) (h := hash) (t := tk' + 1) (v := v) (n := 1) ?_ ?_ (hl.mono ?_)
      · rw [if_neg (Nat.succ_ne_self _), if_pos rfl]
      · rw [if_pos rfl]; rfl
      · intro b o e
        have hb : b < s.heap.objs.size := Heap.lt_size (q.sub b o e)
        rw [if_neg (Nat.ne_of_lt hb), if_neg (Nat.ne_of_lt (Nat.lt_succ_of_lt hb))]
        exact e
    · exact q'.temps p (.tail _ hp)

theorem dict4_put {name : Str} {hash : Int} {key v : Value} (es : List DictEntry) (hno : (es.any fun e => e.key.isStr name) = false) : putL name hash key v es = es ++ [⟨hash, key, v⟩] ∧ ∀ n, putN name es n = n + 1 := by
  refine ⟨?_, fun n => by unfold putN; rw [hno]; rfl⟩
  induction es with
  | nil => rfl
  | cons e r ih =>
    rw [List.any_cons, Bool.or_eq_false_iff] at hno
    unfold putL
    rw [if_neg (by rw [hno.1]; simp), ih hno.2]; rfl
theorem eval_list0 {s : Shared} {env : Env} {pos : Pos} {Q : Value → Shared → Prop} {E : Value → Shared → Prop} (h : Q (.ref s.heap.objs.size) { s with heap := s.heap.push (listOf (List.toArray []) 0) }) : wpAny (model prog w) A (eval (.List [] pos) env) Q E s :=
  wpAny_List (wpAny_items_nil ⟨Nat.zero_le _, h⟩)

theorem news_push {h₀ h : Heap} {L : Addr} {m : Str → Option Value} {p : Addr × Obj} {news : List (Addr × Obj)} (F : Fr h₀ L h m) (N : News h₀ L h (p :: news)) (o : Obj) (hf : o.isFreed = false) : News h₀ L (h.push o) (p :: (h.objs.size, o) :: news) := fun q hq => by
  have := N.push F o hf
  rcases List.mem_cons.mp hq with rfl | hq
  · exact this _ (.tail _ (.head _))
  · rcases List.mem_cons.mp hq with rfl | hq
    · exact this _ (.head _)
    · exact this _ (.tail _ (.tail _ hq))
/-- Entry() -/
theorem new_entry {n : Nat} (W : Wo prog w H mg mb) (r : Room A (n + 3)) : Tr prog w A (call (.ref 101) []) (St prog w H a ρ O T) (fun v h => ∃ x dx l h1 h2 h3 h4 t1 t2 t3 t4 v2, v = .ref x ∧
    St prog w H a ρ ((l, .list []) :: O) ((.ref x, .raw (instObj 101 dx)) :: (.ref dx, .raw (dictOf [⟨h1, .str "useragents" t1, .ref l⟩, ⟨h2, .str "rulelines" t2, v2⟩, ⟨h3, .str "delay" t3, .none⟩, ⟨h4, .str "req_rate" t4, .none⟩] 4)) :: T) h) := Tr.of fun s R K hR => by
  have X := K.inK W
  obtain ⟨φ, m, q⟩ := id K
  have lt_ne : ∀ {p : Addr}, s.heap.objs.size < p → p ≠ s.heap.objs.size := fun h => Nat.ne_of_gt h
  refine new_call (C := 101) (fI := 77) (vs := []) (binds := [("self", .ref (s.heap.objs.size + 1))]) X (W.lim.keeps (q.wb.trans q.base)) r (by rfl) (by rfl) (by rfl) rfl rfl (by rfl) rfl rfl rfl (by intro x hx; simp at hx; subst hx; rfl) (by rfl) fun A' L h₁ tk r' F N => ?_
  have hgt : s.heap.objs.size < h₁.objs.size := Heap.lt_size (N _ (.head _)).1
  refine wpAny_execs_cons (ex_setSelf (v := .ref h₁.objs.size) (C := 101) (K := hd.heap_1 w.params) (es := []) (n := 0) (news := [(h₁.objs.size, listOf (List.toArray []) 0), (s.heap.objs.size + 1, instObj 101 s.heap.objs.size)]) rfl rfl rfl rfl F X (.tail _ (.head _)) (fun p hp => ?_) (by rfl) (by rfl) (by rfl) (by rfl) (by rfl) (by decide) (eval_list0 ⟨rfl, _, rfl, F.push _, news_push F N _ rfl⟩) fun h₂ tk2 key2 hash2 hkey2 F2 N2 => ?_)
  · rcases List.mem_cons.mp hp with rfl | hp
    · exact lt_ne hgt
    · rw [List.mem_singleton] at hp; subst hp; exact Nat.succ_ne_self _
  subst hkey2
  have hgt2 : s.heap.objs.size < h₂.objs.size := Heap.lt_size (N2 _ (.head _)).1
  refine wpAny_execs_cons (ex_setSelf (s := { s with heap := h₂, toks := tk2 + 2 }) (v := .ref h₂.objs.size) (C := 101) (K := hd.heap_1 w.params) (news := [(h₂.objs.size, listOf (List.toArray []) 0), (h₁.objs.size, listOf (List.toArray []) 0), (s.heap.objs.size + 1, instObj 101 s.heap.objs.size)]) rfl rfl rfl rfl F2 X (.tail _ (.tail _ (.head _))) (fun p hp => ?_) (by rfl) (by rfl) (by rfl) (by rfl) (by rfl) (by simp [putL]) (eval_list0 ⟨rfl, _, rfl, F2.push _, news_push F2 N2 _ rfl⟩) fun h₃ tk3 key3 hash3 hkey3 F3 N3 => ?_)
  · rcases List.mem_cons.mp hp with rfl | hp
    · exact lt_ne hgt2
    · rcases List.mem_cons.mp hp with rfl | hp
      · exact lt_ne hgt
      · rw [List.mem_singleton] at hp; subst hp; exact Nat.succ_ne_self _
  subst hkey3
  have hnews : ∀ p ∈ [(h₂.objs.size, listOf (List.toArray []) 0), (h₁.objs.size, listOf (List.toArray []) 0), (s.heap.objs.size + 1, instObj 101 s.heap.objs.size)], p.1 ≠ s.heap.objs.size := by
    intro p hp
    rcases List.mem_cons.mp hp with rfl | hp
    · exact lt_ne hgt2
    · rcases List.mem_cons.mp hp with rfl | hp
      · exact lt_ne hgt
      · rw [List.mem_singleton] at hp; subst hp; exact Nat.succ_ne_self _
  refine wpAny_execs_cons (ex_setSelf (s := { s with heap := h₃, toks := tk3 + 2 }) (v := .none) (C := 101) (K := hd.heap_1 w.params) (news := [(h₂.objs.size, listOf (List.toArray []) 0), (h₁.objs.size, listOf (List.toArray []) 0), (s.heap.objs.size + 1, instObj 101 s.heap.objs.size)]) rfl rfl rfl rfl F3 X (.tail _ (.tail _ (.head _))) hnews (by rfl) (by rfl) (by rfl) (by rfl) (by rfl) (by show 2 < 100; decide) (wpAny_Constant_none ⟨rfl, h₃, rfl, F3, N3⟩) fun h₄ tk4 key4 hash4 hkey4 F4 N4 => ?_)
  subst hkey4
  refine wpAny_execs_cons (ex_setSelf (s := { s with heap := h₄, toks := tk4 + 2 }) (v := .none) (C := 101) (K := hd.heap_1 w.params) (news := [(h₂.objs.size, listOf (List.toArray []) 0), (h₁.objs.size, listOf (List.toArray []) 0), (s.heap.objs.size + 1, instObj 101 s.heap.objs.size)]) rfl rfl rfl rfl F4 X (.tail _ (.tail _ (.head _))) hnews (by rfl) (by rfl) (by rfl) (by rfl) (by rfl) (by show 3 < 100; decide) (wpAny_Constant_none ⟨rfl, h₄, rfl, F4, N4⟩) fun h₅ tk5 key5 hash5 hkey5 F5 N5 => ?_)
  subst hkey5
  refine wpAny_execs_nil ⟨rfl, ?_⟩
  have o1 := (N5 _ (.head _)).1
  have o3 := (N5 _ (.tail _ (.tail _ (.head _)))).1
  have o4 := (N5 _ (.tail _ (.tail _ (.tail _ (.head _))))).1
  have f3 := (N5 _ (.tail _ (.tail _ (.head _)))).2.2
  have hlist : s.heap.get? h₁.objs.size = none := f3
  have hd4 : dictOf (putL "req_rate" hash5 (.str "req_rate" (tk5 + 1)) .none (putL "delay" hash4 (.str "delay" (tk4 + 1)) .none (putL "rulelines" hash3 (.str "rulelines" (tk3 + 1)) (.ref h₂.objs.size) (putL "useragents" hash2 (.str "useragents" (tk2 + 1)) (.ref h₁.objs.size) [])))) (putN "req_rate" (putL "delay" hash4 (.str "delay" (tk4 + 1)) .none (putL "rulelines" hash3 (.str "rulelines" (tk3 + 1)) (.ref h₂.objs.size) (putL "useragents" hash2 (.str "useragents" (tk2 + 1)) (.ref h₁.objs.size) []))) (putN "delay" (putL "rulelines" hash3 (.str "rulelines" (tk3 + 1)) (.ref h₂.objs.size) (putL "useragents" hash2 (.str "useragents" (tk2 + 1)) (.ref h₁.objs.size) [])) (putN "rulelines" (putL "useragents" hash2 (.str "useragents" (tk2 + 1)) (.ref h₁.objs.size) []) (putN "useragents" [] 0))))
    = dictOf [⟨hash2, .str "useragents" (tk2 + 1), .ref h₁.objs.size⟩, ⟨hash3, .str "rulelines" (tk3 + 1), .ref h₂.objs.size⟩, ⟨hash4, .str "delay" (tk4 + 1), .none⟩, ⟨hash5, .str "req_rate" (tk5 + 1), .none⟩] 4 := by rfl
  have o1' : h₅.get? s.heap.objs.size = some (dictOf [⟨hash2, .str "useragents" (tk2 + 1), .ref h₁.objs.size⟩, ⟨hash3, .str "rulelines" (tk3 + 1), .ref h₂.objs.size⟩, ⟨hash4, .str "delay" (tk4 + 1), .none⟩, ⟨hash5, .str "req_rate" (tk5 + 1), .none⟩] 4) := hd4 ▸ o1
  refine hR _ h₅ (tk5 + 2) ⟨s.heap.objs.size + 1, s.heap.objs.size, h₁.objs.size, hash2, hash3, hash4, hash5, tk2 + 1, tk3 + 1, tk4 + 1, tk5 + 1, .ref h₂.objs.size, rfl, ?_⟩
  generalize dictOf [⟨hash2, .str "useragents" (tk2 + 1), .ref h₁.objs.size⟩, ⟨hash3, .str "rulelines" (tk3 + 1), .ref h₂.objs.size⟩, ⟨hash4, .str "delay" (tk4 + 1), .none⟩, ⟨hash5, .str "req_rate" (tk5 + 1), .none⟩] 4 = dd at o1'
  have q' := q.alloc (h' := h₅) F5.keep (fun b => if b = s.heap.objs.size then some dd else if b = s.heap.objs.size + 1 then some (instObj 101 s.heap.objs.size) else none) (by
    intro b o e
    split at e
    · rename_i hb; cases e; subst hb; exact ⟨fresh_none _, o1'⟩
    · split at e
      · rename_i hb; cases e; subst hb; exact ⟨fresh_ge (Nat.le_succ _), o4⟩
      · cases e)
  have hnm : h₁.objs.size ∉ muts a O := fun hm => by
    obtain ⟨o, e⟩ := muts_alive q _ hm
    rw [hlist] at e; cases e
  have hne1 : h₁.objs.size ≠ s.heap.objs.size := lt_ne hgt
  have hne2 : h₁.objs.size ≠ s.heap.objs.size + 1 := fun e => by
    have : s.heap.objs.size + 1 < h₁.objs.size := Heap.lt_size (N _ (.tail _ (.head _))).1
    rw [e] at this; exact Nat.lt_irrefl _ this
  have q2 := Core.adopt (n := h₁.objs.size) q' o3 (by rw [if_neg hne1, if_neg hne2]; exact q.phi_free hlist) (q.base_free hlist) hnm
  have K2 : St prog w H a ρ ((h₁.objs.size, .raw (listOf (List.toArray []) 0)) :: O) ((.ref (s.heap.objs.size + 1), .raw (instObj 101 s.heap.objs.size)) :: (.ref s.heap.objs.size, .raw dd) :: T) h₅ := by
    refine ⟨_, m, { q2 with temps := ?_ }⟩
    intro p hp
    rcases List.mem_cons.mp hp with rfl | hp
    · refine .raw ?_
      show (match (if s.heap.objs.size + 1 = s.heap.objs.size then some dd else if s.heap.objs.size + 1 = s.heap.objs.size + 1 then some (instObj 101 s.heap.objs.size) else none) with | some o => some o | none => φ (s.heap.objs.size + 1)) = _
      rw [if_neg (Nat.succ_ne_self _), if_pos rfl]
    · rcases List.mem_cons.mp hp with rfl | hp
      · refine .raw ?_
        show (match (if s.heap.objs.size = s.heap.objs.size then some dd else if s.heap.objs.size = s.heap.objs.size + 1 then some (instObj 101 s.heap.objs.size) else none) with | some o => some o | none => φ s.heap.objs.size) = _
        rw [if_pos rfl]
      · exact q2.temps p hp
  exact St.set K2 ⟨rfl, fun _ _ => rfl⟩ o3 fun φ' hT _ => ⟨[], 0, rfl, .nil⟩
end
end Mine

namespace Mine

section
variable {prog : Program} {w : World} {H : Heap} {A : Around} {a : Act} {ρ : Rho} {O : List (Addr × OD)} {T : List (Value × D)} {mg mb : Str → Option Value}

/-- l.extend(e), l an own list of nothing -/
theorem own_extend {l : Addr} {e : Expr} {pos : Pos} {ds : List D} (y : Ev prog w H A a ρ ((l, .list []) :: O) e (.list ds)) (hsz : ds.length ≤ 1000000) (hs : backTo pos (starEach [e] a.env) = [(false, eval e a.env)] := by rfl) :
    Tr prog w A (callWith pos (.builtin "list.extend") [.ref l] (backTo pos (starEach [e] a.env)) []) (St prog w H a ρ ((l, .list []) :: O) T) (fun v h => v = .none ∧ St prog w H a ρ ((l, .list ds) :: O) T h) := Tr.of fun s R K hR => by
  have hsl : sizeLine = 16777216 := rfl
  rw [hs]
  refine PySem.P.extend_list ((y T).use K fun v h1 tk1 q1 => ?_)
  obtain ⟨b, us, n, rfl, hb, hlen, q2⟩ := q1.listRaw (v := v) (ds := ds) (.head _)
  obtain ⟨φ, m, q⟩ := id q2
  obtain ⟨o, ho, vs, k, rfl, hr⟩ := q.own _ (.head _)
  cases hr
  refine ⟨b, #[], us.toArray, k, n, by simp, by rw [List.size_toArray]; simp; omega, by simp, rfl, ho, hb, hR _ _ tk1 ⟨rfl, ?_⟩⟩
  have hup := IsL.update (l := l) (items := #[]) (n := k) ho fun xs => xs ++ us.toArray
  have := St.step (Ow := [(l, OD.list [])]) (Ow' := [(l, OD.list ds)]) (Oz := O) (Tn := []) (h' := h1.update l (Obj.mapSeq fun xs => xs ++ us.toArray)) q2 rfl (fun c o hc e => by
    rw [Heap.get?_update_ne h1 c l _ (by simpa using hc)]; exact e) (fun _ => none) (fun _ _ e => nomatch e) ?_ (fun _ _ _ _ p hp => nomatch hp)
  · exact this.sub fun p hp => .tail _ (List.mem_append_right _ (.tail _ hp))
  · intro φ' hT _ hO p hp
    rw [List.mem_singleton] at hp
    subst hp
    exact ⟨_, hup, us, _, (by show listOf (#[] ++ us.toArray) _ = _; rw [Array.empty_append]), RdAll.of_zip hlen fun p hp => hT p (.tail _ (List.mem_append_left _ hp))⟩

/-- an Entry under way -/
structure EntI where
  x : Addr
  dx : Addr
  l : Addr
  h1 : Int
  h2 : Int
  h3 : Int
  h4 : Int
  t1 : Tok
  t2 : Tok
  t3 : Tok
  t4 : Tok
  v2 : Value
noncomputable def EntI.es (i : EntI) : List DictEntry := [⟨i.h1, .str "useragents" i.t1, .ref i.l⟩, ⟨i.h2, .str "rulelines" i.t2, i.v2⟩, ⟨i.h3, .str "delay" i.t3, .none⟩, ⟨i.h4, .str "req_rate" i.t4, .none⟩]
noncomputable def EntI.ts (i : EntI) : List (Value × D) := [(.ref i.x, .raw (instObj 101 i.dx)), (.ref i.dx, .raw (dictOf i.es 4))]
theorem ex_assign_entry {x : Str} {px np cp pos : Pos} {n : Nat} (W : Wo prog w H mg mb) (r : Room A (n + 3)) (hs : Storable a x) (hk : a.env.kindOf "Entry" = some .globalImplicit) (hsw : swapsWith (.Call (.Name "Entry" np) [] [] cp) (some (.Name x px)) pos.line a.env = Pure.pure false := by rfl) :
    Tr prog w A (exec (.Assign [.Name x px] (.Call (.Name "Entry" np) [] [] cp) pos) a.env) (St prog w H a ρ O T) (Nx fun h => ∃ i : EntI, St prog w H a (upd ρ x (.val (.raw (instObj 101 i.dx)))) ((i.l, .list []) :: O) (i.ts ++ T) h) :=
  Tr.of fun s R K hR => wpAny_Assign_Name (by
    refine Call_Name rfl (nameG W K (v := .ref 101) rfl hk ?_)
    refine callWith_K0 (K := hd.heap_1 w.params) (K.inK W) (by rfl) ((new_entry W r).use K fun v h1 tk1 q => ?_)
    obtain ⟨x', dx, l, g1, g2, g3, g4, t1, t2, t3, t4, v2, rfl, q⟩ := q
    exact storeB (b := .val (.raw (instObj 101 dx))) q hs (fun φ hT => hT _ (.head _)) fun h2 tk2 q2 => hR _ h2 tk2 ⟨rfl, ⟨x', dx, l, g1, g2, g3, g4, t1, t2, t3, t4, v2⟩, q2⟩) hsw
theorem ex_extend_entry {pl : Sem Bool} {i : EntI} {x : Str} {px ap ap2 cp pos : Pos} {e : Expr} {ds : List D} (W : Wo prog w H mg mb) (hx : ρ x = some (.val (.raw (instObj 101 i.dx)))) (y : Ev prog w H A a ρ ((i.l, .list []) :: O) e (.list ds)) (hsz : ds.length ≤ 1000000) (hint : interactive a.env = false := by rfl)
    (hd' : (x == ("__debug__" : Str)) = false := by decide) (hn : (x == ("__classdict__" : Str)) = false := by decide)
    (hs : backTo cp (starEach [e] a.env) = [(false, eval e a.env)] := by rfl)
    (ha : eval (.Attribute (.Name x px) "useragents" ap) a.env = (do let ov ← eval (.Name x px) a.env; standAt ap.atName; let r ← holding [ov] (getAttr ov "useragents" true); letTemporaryGo (.Name x px) ov r; pure r) := by with_unfolding_all rfl)
    (he : eval (.Call (.Attribute (.Attribute (.Name x px) "useragents" ap) "extend" ap2) [e] [] cp) a.env = (do let ov ← eval (.Attribute (.Name x px) "useragents" ap) a.env; standAt ap2.atName; let (f, first) ← holding [ov] (getMethod ov "extend" pl); callWith cp f first (backTo cp (starEach [e] a.env)) []) := by rfl) :
    Tr prog w A (exec (.Expr (.Call (.Attribute (.Attribute (.Name x px) "useragents" ap) "extend" ap2) [e] [] cp) pos) a.env) (St prog w H a ρ ((i.l, .list []) :: O) (i.ts ++ T)) (Nx (St prog w H a ρ ((i.l, .list ds) :: O) (i.ts ++ T))) :=
  Tr.of fun s R K hR => by
    refine wpAny_Expr (MethodCall_ (Attribute_any_ ((Ev.name hx hd' hn _).use K fun ov h1 tk1 q1 => ?_) ha) he) hint
    obtain ⟨x', rfl, hx'⟩ := q1.raw (.head _)
    have hdx : h1.get? i.dx = some (dictOf i.es 4) := by
      obtain ⟨b, e1, e2⟩ := q1.raw (v := .ref i.dx) (o := dictOf i.es 4) (.tail _ (List.mem_append_left _ (.tail _ (.head _))))
      cases e1; exact e2
    refine get_value (K := hd.heap_1 w.params) (s := { s with heap := h1, toks := tk1 }) (q1.inK W) (inst_at hx' hdx) (by rfl) (v := .ref i.l) (by rfl) (by rfl) ?_
    have q2 := q1.tail
    obtain ⟨φ, m, q⟩ := id q2
    obtain ⟨o, ho, vs, k, rfl, hr⟩ := q.own _ (.head _)
    refine getMethod_list_of (pl := pl) PySem.F.slot_list_extend PySem.F.type_list_extend (l := i.l) (items := vs.toArray) ⟨_, ho, rfl, k, rfl⟩ ⟨_, ho, rfl⟩ ?_
    exact (own_extend y hsz hs).use (s := { s with heap := h1, toks := tk1 + 1 }) q2 fun v h3 tk3 q3 => by
      obtain ⟨rfl, q3⟩ := q3
      exact hR _ h3 tk3 ⟨rfl, q3⟩
theorem ex_return_entry {i : EntI} {x : Str} {px pos : Pos} {ds : List D} (hx : ρ x = some (.val (.raw (instObj 101 i.dx)))) (hd' : (x == ("__debug__" : Str)) = false := by decide) (hn : (x == ("__classdict__" : Str)) = false := by decide) :
    Tr prog w A (exec (.Return (some (.Name x px)) pos) a.env) (St prog w H a ρ ((i.l, .list ds) :: O) (i.ts ++ T)) (fun f h => ∃ v, f = .ret v ∧ St prog w H a ρ O ((v, .ent ds) :: T) h) :=
  Tr.of fun s R K hR => wpAny_Return_some ((Ev.name hx hd' hn _).use K fun v h' tk q1 => hR _ h' tk ⟨v, rfl, by
    have q2 := q1.freeze
    obtain ⟨φ, m, q⟩ := q2
    refine ⟨φ, m, { q with temps := ?_ }⟩
    intro p hp
    rcases List.mem_cons.mp hp with rfl | hp
    · have e1 := q.temps (v, .raw (instObj 101 i.dx)) (.tail _ (.head _))
      have e2 := q.temps (.ref i.dx, .raw (dictOf i.es 4)) (.tail _ (.tail _ (.tail _ (.head _))))
      have e3 := q.temps (.ref i.l, .list ds) (.head _)
      obtain ⟨_, rfl, g1⟩ := e1.inv
      obtain ⟨_, e0, g2⟩ := e2.inv
      cases e0
      exact .ent g1 g2 e3
    · exact q.temps p (.tail _ (.tail _ (.tail _ (.tail _ hp))))⟩)

/-- _law_record -/
theorem C_record {ags : List Str} (hlen : ags.length ≤ 100000) (W : Wo prog w H mg mb) (r : Room A 5) : PL prog w H A (fun vs => call (.ref 132) vs) [.list (ags.map .str)] (.ent (ags.map .str)) := by
  refine PL.fnR (f := 132) (xs := ["agents"]) W r rfl rfl (by rfl) rfl rfl (bind1 fun _ => rfl) rfl (by decide) (by decide) (by decide) rfl rfl fun A L Φ h₀ r => ?_
  refine execs_next (ex_assign_entry (n := 1) W r (.inl rfl) rfl) (Tr.exists fun i => ?_)
  refine execs_next (ex_extend_entry (i := i) W rfl (Ev.name rfl) (by rw [List.length_map]; omega)) ?_
  exact execs_ret (ex_return_entry (i := i) (x := "record") rfl)
end
end Mine

namespace Mine

section
variable {prog : Program} {w : World} {H : Heap} {A : Around} {a : Act} {ρ : Rho} {O : List (Addr × OD)} {T : List (Value × D)} {mg mb : Str → Option Value}

noncomputable def intV : Value → Int | .int i _ => i | _ => 0
/-- l.index(k) -/
theorem Ev.index {pl : Sem Bool} {o e : Expr} {ap pos : Pos} {ns : List Int} {k : Int} {j : Nat} (y : Ev prog w H A a ρ O o (.list (ns.map .int))) (z : Ev prog w H A a ρ O e (.int k)) (hj : ns[j]? = some k) (hno : ∀ m, m < j → ns[m]? ≠ some k) (hlen : ns.length ≤ 1000)
    (hs : backTo pos (starEach [e] a.env) = [(false, eval e a.env)] := by rfl)
    (he : eval (.Call (.Attribute o "index" ap) [e] [] pos) a.env = (do let ov ← eval o a.env; standAt ap.atName; let (f, first) ← holding [ov] (getMethod ov "index" pl); callWith pos f first (backTo pos (starEach [e] a.env)) []) := by rfl) :
    Ev prog w H A a ρ O (.Call (.Attribute o "index" ap) [e] [] pos) (.int (j : Nat)) :=
  fun T => Tr.of fun s R K hR => by
    refine MethodCall_ ((y T).use K fun v h1 tk1 q1 => ?_) he
    obtain ⟨l, vs, n, rfl, hl, hlen', q2⟩ := q1.listRaw (v := v) (.head _)
    rw [List.length_map] at hlen'
    refine getMethod_list_of (pl := pl) (s := { s with heap := h1, toks := tk1 }) PySem.F.slot_list_index PySem.F.type_list_index (l := l) (items := vs.toArray) ⟨_, hl, rfl, n, rfl⟩ ⟨_, hl, rfl⟩ ?_
    rw [hs]
    have hjn := (List.getElem?_eq_some_iff.mp hj).1
    refine PySem.P.index_list ((z _).use (s := { s with heap := h1, toks := tk1 }) q2 fun u h2 tk2 q3 => ?_)
    obtain ⟨t, rfl⟩ := q3.int (v := u) (i := k) (.head _)
    have hl2 : h2.get? l = some (listOf vs.toArray n) := by
      obtain ⟨b, e1, e2⟩ := q3.raw (v := .ref l) (o := listOf vs.toArray n) (.tail _ (.head _))
      cases e1; exact e2
    obtain ⟨φ, m, q⟩ := id q3
    have hr : RdAll prog w φ vs (ns.map .int) := RdAll.of_zip (by rw [List.length_map]; exact hlen') fun p hp => q.temps p (.tail _ (.tail _ (List.mem_append_left _ hp)))
    have hI := intsAre_of hr
    have hat : ∀ i, i < vs.length → intV (vs.getD i .none) = ns.getD i 0 := by
      intro i hi
      have : vs[i]? = some vs[i] := List.getElem?_eq_getElem hi
      obtain ⟨d, hd, r⟩ := hr.get' this
      rw [List.getElem?_map] at hd
      obtain ⟨x, hx, rfl⟩ := Option.map_eq_some_iff.mp hd
      rw [List.getD_eq_getElem?_getD, List.getD_eq_getElem?_getD, this, hx]
      show intV vs[i] = x
      generalize vs[i] = u at r
      cases r; rfl
    have hjv : j < vs.length := by omega
    have hval : ∀ i (hi : i < vs.toArray.size), intV vs.toArray[i] = ns.getD i 0 := fun i hi => by
      have hi' : i < vs.length := by simpa using hi
      have := hat i hi'
      rw [List.getD_eq_getElem?_getD, List.getElem?_eq_getElem hi'] at this
      simpa using this
    refine ⟨vs.toArray, n, fun y => intV y == k, j, by simpa using hjv, hl2, ?_, by omega, ?_, ?_, hR _ h2 _ ?_⟩
    · intro y hy
      have hy' : y ∈ vs := by simpa using hy
      obtain ⟨i, hi, e⟩ := List.mem_iff_getElem.mp hy'
      obtain ⟨d, hd, r⟩ := hr.get' (List.getElem?_eq_getElem hi)
      rw [List.getElem?_map] at hd
      obtain ⟨x, hx, rfl⟩ := Option.map_eq_some_iff.mp hd
      rw [e] at r
      obtain ⟨t', rfl⟩ := r.inv
      exact MeetsSeq.EqGives.int x k t' t
    · show (intV vs.toArray[j] == k) = true
      rw [hval j (by simpa using hjv), List.getD_eq_getElem?_getD, hj]; simp
    · intro m hm hmj
      show (intV vs.toArray[m] == k) = false
      rw [hval m hm]
      have hmn : m < ns.length := by omega
      have h1 := hno m hmj
      rw [List.getElem?_eq_getElem hmn] at h1
      rw [List.getD_eq_getElem?_getD, List.getElem?_eq_getElem hmn]
      simp only [Option.getD_some, beq_eq_false_iff_ne]
      intro e
      exact h1 (by rw [e])
    · exact (q3.sub (T' := T) fun p hp => .tail _ (.tail _ (List.mem_append_right _ (.tail _ hp)))).addInt
end
end Mine

namespace Mine

noncomputable def zipO (f0 : Value) (f : Bool) (TI TO : Addr) : Obj := { cls := .type "zip", dict := none, data := .fields #[f0, .bool f, .bool false, .ref TI, .ref TO], slots := #[] }
section
variable {prog : Program} {w : World} {A : Around} {E : Value → Shared → Prop} {s : Shared}
/-- the next of a zip whose own tuple is held -/
theorem zip_more {z TI TO i1 i2 l1 l2 T : Addr} {f : Bool} {oT : Obj} {k1 k2 : Nat} {xs ys : Array Value} {x y : Value} {Q : Value → Shared → Prop} (D : ZipApart z TI TO i1 i2 l1 l2)
    (hz : s.heap.get? z = some (zipO (rawInt T) f TI TO)) (hT : s.heap.get? T = some oT) (hTI : IsPair s.heap TI (.ref i1) (.ref i2))
    (h1 : s.heap.IsListIter i1 l1 k1) (h2 : s.heap.IsListIter i2 l2 k2) (hl1 : s.heap.IsList l1 xs) (hl2 : s.heap.IsList l2 ys) (hx : xs[k1]? = some x) (hy : ys[k2]? = some y)
    (hQ : ∀ h', h'.get? z = some (zipO (rawInt T) true TI TO) → h'.IsListIter i1 l1 (k1 + 1) → h'.IsListIter i2 l2 (k2 + 1) → IsPair h' s.heap.objs.size x y → h'.objs.size = s.heap.objs.size + 1 →
      (∀ c o, c ≠ z → c ≠ i1 → c ≠ i2 → s.heap.get? c = some o → h'.get? c = some o) → Q (.ref s.heap.objs.size) { s with heap := h' }) :
    wpAny (model prog w) A (Builtin.«zip.__next__» ⟨[.ref z], []⟩) (fun fin s' => ∃ v, fin = .done (.ret v) ∧ Q v s') E s := by
  show wpAny _ _ (field (.ref z) 2 >>= _) _ _ _
  refine wpAny_bind (wpAny_field hz rfl (x := .bool false) rfl ?_)
  show wpAny _ _ (field (.ref z) 3 >>= _) _ _ _
  refine wpAny_bind (wpAny_field hz rfl (x := .ref TI) rfl ?_)
  refine wpAny_bind (wpAny_seqItems hTI rfl ?_)
  show wpAny _ _ (Builtin.SmallTypes.ownedTupleIsFree (.ref z) >>= _) _ _ _
  have first : wpAny (model prog w) A (Builtin.SmallTypes.ownedTupleIsFree (.ref z)) (fun r s' => r = false ∧ ∃ h₁, s' = { s with heap := h₁ } ∧ h₁.get? z = some (zipO (rawInt T) true TI TO) ∧ Heap.SameBut z s.heap h₁) E s := by
    unfold Builtin.SmallTypes.ownedTupleIsFree
    refine wpAny_bind (wpAny_field hz rfl (x := rawInt T) rfl ?_)
    show wpAny _ _ (loadIfAlive _ >>= _) _ _ _
    refine wpAny_bind (kdx_alive hT ?_)
    show wpAny _ _ (field (.ref z) 1 >>= _) _ _ _
    refine wpAny_bind (wpAny_field hz rfl (x := .bool f) rfl ?_)
    cases f with
    | true => exact wpAny_pure ⟨rfl, s.heap, rfl, hz, rfl, fun _ _ => rfl⟩
    | false => exact wpAny_bind (wpAny_setField_rec hz (by simp) fun h₁ hz₁ hs₁ => wpAny_pure ⟨rfl, h₁, rfl, hz₁, hs₁⟩)
  refine wpAny_bind (wpAny_mono first (fun r s' hr => ?_) fun _ _ e => e)
  obtain ⟨rfl, g₁, rfl, hz₁, hs₁⟩ := hr
  simp only [Bool.false_eq_true, if_false]
  refine wpAny_bind ?_
  simp only [List.forIn_toArray, List.forIn_cons, List.forIn_nil]
  refine wpAny_bind (wpAny_bind (wpAny_holding ?_))
  show wpAny _ _ (Builtin.SmallTypes.nextOf (.ref i1) >>= _) _ _ _
  refine wpAny_bind (wpAny_nextOf_list_item (h1.extBut hs₁.extBut D.i1z) (hl1.extBut hs₁.extBut D.l1z) hx fun g₂ h1₂ hs₂ => wpAny_pure ?_)
  refine wpAny_pure ?_
  refine wpAny_bind (wpAny_bind (wpAny_holding ?_))
  show wpAny _ _ (Builtin.SmallTypes.nextOf (.ref i2) >>= _) _ _ _
  refine wpAny_bind (wpAny_nextOf_list_item ((h2.extBut hs₁.extBut D.i2z).extBut hs₂.extBut D.i12.symm) ((hl2.extBut hs₁.extBut D.l2z).extBut hs₂.extBut D.l2i1) hy fun g₃ h2₃ hs₃ => wpAny_pure ?_)
  refine wpAny_pure (wpAny_pure ?_)
  refine wpAny_bind (wpAny_newTuple ?_ (by show 2 ≤ 2 ^ 24; decide))
  have hsz : g₃.objs.size = s.heap.objs.size := by rw [hs₃.1, hs₂.1, hs₁.1]
  have hz₃ : g₃.get? z = some (zipO (rawInt T) true TI TO) := hs₃.extBut _ _ D.i2z.symm (hs₂.extBut _ _ D.i1z.symm hz₁)
  have hk : ∀ c o, c ≠ z → c ≠ i1 → c ≠ i2 → s.heap.get? c = some o → g₃.get? c = some o := fun c o c1 c2 c3 e => hs₃.extBut _ _ c3 (hs₂.extBut _ _ c2 (hs₁.extBut _ _ c1 e))
  refine wpAny_pure ⟨_, rfl, ?_⟩
  show Q (.ref g₃.objs.size) _
  have up : ∀ c o, g₃.get? c = some o → (g₃.push { cls := .type "tuple", data := .seq #[x, y] }).get? c = some o := fun c o e => Heap.get?_push_of_some _ e
  have hnew : IsPair (g₃.push { cls := .type "tuple", data := .seq #[x, y] }) g₃.objs.size x y := Heap.get?_push_size _ rfl
  rw [hsz] at hnew ⊢
  exact hQ _ (up _ _ hz₃) ((h1₂.extBut hs₃.extBut D.i12).at fun o e => up _ o e) (h2₃.at fun o e => up _ o e) hnew (by rw [Heap.size_push, hsz]) fun c o c1 c2 c3 e => up _ _ (hk c o c1 c2 c3 e)

theorem zip_more_end {z TI TO i1 i2 l1 l2 T : Addr} {f : Bool} {oT : Obj} {k1 : Nat} {xs : Array Value} {Q : Fin → Shared → Prop} (hh : A.handled = none) (D : ZipApart z TI TO i1 i2 l1 l2)
    (hz : s.heap.get? z = some (zipO (rawInt T) f TI TO)) (hT : s.heap.get? T = some oT) (hTI : IsPair s.heap TI (.ref i1) (.ref i2))
    (h1 : s.heap.IsListIter i1 l1 k1) (hl1 : s.heap.IsList l1 xs) (hx : xs[k1]? = none)
    (hE : ∀ h' e, (∀ c o, c ≠ z → c ≠ i1 → s.heap.get? c = some o → h'.get? c = some o) → (∃ o, h'.get? e = some o ∧ o.cls = .type "StopIteration") → E (.ref e) { s with heap := h' }) :
    wpAny (model prog w) A (Builtin.«zip.__next__» ⟨[.ref z], []⟩) Q E s := by
  show wpAny _ _ (field (.ref z) 2 >>= _) _ _ _
  refine wpAny_bind (wpAny_field hz rfl (x := .bool false) rfl ?_)
  show wpAny _ _ (field (.ref z) 3 >>= _) _ _ _
  refine wpAny_bind (wpAny_field hz rfl (x := .ref TI) rfl ?_)
  refine wpAny_bind (wpAny_seqItems hTI rfl ?_)
  have first : wpAny (model prog w) A (Builtin.SmallTypes.ownedTupleIsFree (.ref z)) (fun r s' => r = false ∧ ∃ h₁, s' = { s with heap := h₁ } ∧ h₁.get? z = some (zipO (rawInt T) true TI TO) ∧ Heap.SameBut z s.heap h₁) E s := by
    unfold Builtin.SmallTypes.ownedTupleIsFree
    refine wpAny_bind (wpAny_field hz rfl (x := rawInt T) rfl ?_)
    show wpAny _ _ (loadIfAlive _ >>= _) _ _ _
    refine wpAny_bind (kdx_alive hT ?_)
    show wpAny _ _ (field (.ref z) 1 >>= _) _ _ _
    refine wpAny_bind (wpAny_field hz rfl (x := .bool f) rfl ?_)
    cases f with
    | true => exact wpAny_pure ⟨rfl, s.heap, rfl, hz, rfl, fun _ _ => rfl⟩
    | false => exact wpAny_bind (wpAny_setField_rec hz (by simp) fun h₁ hz₁ hs₁ => wpAny_pure ⟨rfl, h₁, rfl, hz₁, hs₁⟩)
  show wpAny _ _ (Builtin.SmallTypes.ownedTupleIsFree (.ref z) >>= _) _ _ _
  refine wpAny_bind (wpAny_mono first (fun r s' hr => ?_) fun _ _ e => e)
  obtain ⟨rfl, g₁, rfl, hz₁, hs₁⟩ := hr
  simp only [Bool.false_eq_true, if_false]
  refine wpAny_bind ?_
  simp only [List.forIn_toArray, List.forIn_cons, List.forIn_nil]
  refine wpAny_bind (wpAny_bind (wpAny_holding ?_))
  show wpAny _ _ (Builtin.SmallTypes.nextOf (.ref i1) >>= _) _ _ _
  exact wpAny_bind (wpAny_nextOf_list_end hh (h1.extBut hs₁.extBut D.i1z) (hl1.extBut hs₁.extBut D.l1z) hx fun h₂ e hs₂ he => hE h₂ e (fun c o c1 c2 x => hs₂ _ _ c2 (hs₁.extBut _ _ c1 x)) he)
theorem pyNext_zip_more {z TI TO i1 i2 l1 l2 T : Addr} {f : Bool} {oT : Obj} {k1 k2 : Nat} {xs ys : Array Value} {x y : Value} {Q : Option Value → Shared → Prop} (D : ZipApart z TI TO i1 i2 l1 l2)
    (hz : s.heap.get? z = some (zipO (rawInt T) f TI TO)) (hT : s.heap.get? T = some oT) (hTI : IsPair s.heap TI (.ref i1) (.ref i2))
    (h1 : s.heap.IsListIter i1 l1 k1) (h2 : s.heap.IsListIter i2 l2 k2) (hl1 : s.heap.IsList l1 xs) (hl2 : s.heap.IsList l2 ys) (hx : xs[k1]? = some x) (hy : ys[k2]? = some y)
    (hQ : ∀ h', h'.get? z = some (zipO (rawInt T) true TI TO) → h'.IsListIter i1 l1 (k1 + 1) → h'.IsListIter i2 l2 (k2 + 1) → IsPair h' s.heap.objs.size x y → h'.objs.size = s.heap.objs.size + 1 →
      (∀ c o, c ≠ z → c ≠ i1 → c ≠ i2 → s.heap.get? c = some o → h'.get? c = some o) → Q (some (.ref s.heap.objs.size)) { s with heap := h' }) : wpAny (model prog w) A (pyNext (.ref z)) Q E s := by
  have hTy : s.TypeIs (.ref z) "zip" := ⟨_, hz, rfl⟩
  unfold pyNext
  exact wpAny_bind (wpAny_attempt (wpAny_callSpecial?_slot (name := Str.ofString "__next__") hTy PySem.F.slot_zip_next
    (wpAny_call_entry PySem.F.slot_zip_next hTy PySem.F.entry_zip_next
      (zip_more D hz hT hTI h1 h2 hl1 hl2 hx hy fun h' a1 a3 a4 a5 a6 a7 => wpAny_pure (hQ h' a1 a3 a4 a5 a6 a7)) (PySem.F.args_zip_next_1 _))))
theorem pyNext_zip_more_end {z TI TO i1 i2 l1 l2 T : Addr} {f : Bool} {oT : Obj} {k1 : Nat} {xs : Array Value} {Q : Option Value → Shared → Prop} (hh : A.handled = none) (D : ZipApart z TI TO i1 i2 l1 l2)
    (hz : s.heap.get? z = some (zipO (rawInt T) f TI TO)) (hT : s.heap.get? T = some oT) (hTI : IsPair s.heap TI (.ref i1) (.ref i2))
    (h1 : s.heap.IsListIter i1 l1 k1) (hl1 : s.heap.IsList l1 xs) (hx : xs[k1]? = none)
    (hQ : ∀ h', (∀ c o, c ≠ z → c ≠ i1 → s.heap.get? c = some o → h'.get? c = some o) → Q none { s with heap := h' }) : wpAny (model prog w) A (pyNext (.ref z)) Q E s := by
  have hTy : s.TypeIs (.ref z) "zip" := ⟨_, hz, rfl⟩
  unfold pyNext
  refine wpAny_bind (wpAny_attempt (wpAny_callSpecial?_slot (name := Str.ofString "__next__") hTy PySem.F.slot_zip_next
    (wpAny_call_entry PySem.F.slot_zip_next hTy PySem.F.entry_zip_next (zip_more_end hh D hz hT hTI h1 hl1 hx fun h' e hk he => ?_) (PySem.F.args_zip_next_1 _))))
  obtain ⟨o, ho, hc⟩ := he
  refine wpAny_bind (wpAny_isInstance (T := "StopIteration") (b := true) ⟨o, ho, hc⟩ isSubtype_stop ?_)
  exact wpAny_pure (hQ _ hk)
end
end Mine

namespace Mine

section
variable {prog : Program} {w : World} {A : Around} {E : Value → Shared → Prop} {s : Shared}

/-- the zip after i items that a list holds -/
noncomputable def ZipSt (h : Heap) (z TI TO i1 i2 l1 l2 : Addr) (i : Nat) (as : List Addr) : Prop :=
  IsPair h TI (.ref i1) (.ref i2) ∧ h.IsListIter i1 l1 i ∧ h.IsListIter i2 l2 i ∧
  ((i = 0 ∧ IsZip h z TI TO .none ∧ ∃ a b, IsPair h TO a b) ∨ ∃ T f oT, T ∈ as ∧ h.get? z = some (zipO (rawInt T) f TI TO) ∧ h.get? T = some oT)
structure Pairs2 (xs ys : Array Value) (lo : Addr) (h : Heap) (as : List Addr) : Prop where
  nodup : as.Nodup
  above : ∀ a ∈ as, lo < a
  pairs : ∀ (j : Nat) (b : Addr), as[j]? = some b → ∃ x y, xs[j]? = some x ∧ ys[j]? = some y ∧ IsPair h b x y
theorem zip_loop {S z TI TO i1 i2 l1 l2 : Addr} {xs ys : Array Value} {R : Result → Shared → Prop} (hh : A.handled = none) (D : ZipApart z TI TO i1 i2 l1 l2) (hS : S ≠ z ∧ S ≠ TI ∧ S ≠ TO ∧ S ≠ i1 ∧ S ≠ i2) (hl : l1 ≠ S ∧ l2 ≠ S) (hxy : xs.size = ys.size) (hn : xs.size ≤ 100000) (res : Value) {h₁ : Heap} {lo : Addr} (hz : z ≤ lo ∧ S ≤ lo ∧ TO ≤ lo ∧ i1 ≤ lo ∧ i2 ≤ lo)
    (hR : ∀ h' tk acc c as, (∀ b o, b ≠ S → b ≠ z → b ≠ TO → b ≠ i1 → b ≠ i2 → h₁.get? b = some o → h'.get? b = some o) → h'.get? S = some { cls := .type "list", dict := none, data := .seq acc c, slots := #[] } → as.length = xs.size → Pairs2 xs ys lo h' as →
      acc.toList = as.map Value.ref → R (.ok (.ret res)) { s with heap := h', toks := tk }) :
    ∀ (k i : Nat) (h : Heap) (tk c : Nat) (acc : Array Value) (as : List Addr), xs.size - i = k → i ≤ xs.size → ZipSt h z TI TO i1 i2 l1 l2 i as → h.IsList l1 xs → h.IsList l2 ys → (∀ b o, b ≠ S → b ≠ z → b ≠ TO → b ≠ i1 → b ≠ i2 → h₁.get? b = some o → h.get? b = some o) →
      h.get? S = some { cls := .type "list", dict := none, data := .seq acc c, slots := #[] } → acc.toList = as.map Value.ref → as.length = i → Pairs2 xs ys lo h as → lo < h.objs.size →
      codeAny (model prog w) A (.builtin "list.extend.loop" ⟨[.ref S, .ref z, res], []⟩) R { s with heap := h, toks := tk } := by
  obtain ⟨S1, S2, S3, S4, S5⟩ := hS
  obtain ⟨z1, z2, z3, z4, z5⟩ := hz
  intro k
  induction k with
  | zero =>
    intro i h tk c acc as hk hi hst hL1 hL2 hkeep hSo hacc hal hG hIs
    have hin : i = xs.size := by omega
    have hx : xs[i]? = none := Array.getElem?_eq_none (by omega)
    refine codeAny_builtin PySem.F.entry_extend_loop ?_
    rw [Around.under_plainId PySem.F.plain_extend_loop _]
    show wpAny _ A.in1 (pyNext (.ref z) >>= _) _ _ _
    have fin : ∀ h', (∀ c o, c ≠ z → c ≠ TO → c ≠ i1 → c ≠ i2 → h.get? c = some o → h'.get? c = some o) → R (.ok (.ret res)) { s with heap := h', toks := tk } := fun h' he =>
      hR h' tk acc c as (fun b o h1 h2 h3 h4 h5 e => he b o h2 h3 h4 h5 (hkeep b o h1 h2 h3 h4 h5 e)) (he S _ S1 S3 S4 S5 hSo) (by omega) ⟨hG.nodup, hG.above, fun j b hj => by
        obtain ⟨x, y, e1, e2, e3⟩ := hG.pairs j b hj
        have hb := hG.above b (List.mem_of_getElem? hj)
        exact ⟨x, y, e1, e2, he b _ (Nat.ne_of_gt (Nat.lt_of_le_of_lt z1 hb)) (Nat.ne_of_gt (Nat.lt_of_le_of_lt z3 hb)) (Nat.ne_of_gt (Nat.lt_of_le_of_lt z4 hb)) (Nat.ne_of_gt (Nat.lt_of_le_of_lt z5 hb)) e3⟩⟩ hacc
    obtain ⟨hTI, hi1, hi2, ⟨_, hz0, a, b, hTO⟩ | ⟨T, f, oT, _, hzT, hT⟩⟩ := hst
    · exact wpAny_bind (wpAny_pyNext_zip_end (A := A.in1) (s := { s with heap := h, toks := tk }) hh D hz0 hTI hTO hi1 hi2 hL1 hL2 (.inl hx) fun h' he => wpAny_pure (fin h' he))
    · exact wpAny_bind (pyNext_zip_more_end (A := A.in1) (s := { s with heap := h, toks := tk }) hh D hzT hT hTI hi1 hL1 hx fun h' he => wpAny_pure (fin h' fun c o h1 _ h3 _ e => he c o h1 h3 e))
  | succ k ih =>
    intro i h tk c acc as hk hi hst hL1 hL2 hkeep hSo hacc hal hG hIs
    have hlt : i < xs.size := by omega
    have hx : xs[i]? = some xs[i] := Array.getElem?_eq_getElem hlt
    have hy : ys[i]? = some ys[i] := Array.getElem?_eq_getElem (by omega)
    have hsz : acc.size = i := by rw [← Array.length_toList, hacc, List.length_map, hal]
    refine codeAny_builtin PySem.F.entry_extend_loop ?_
    rw [Around.under_plainId PySem.F.plain_extend_loop _]
    show wpAny _ A.in1 (pyNext (.ref z) >>= _) _ _ _
    have hSl : S < h.objs.size := Heap.lt_size hSo
    have fin : ∀ h', (∃ T f oT, T ∈ as ++ [h.objs.size] ∧ h'.get? z = some (zipO (rawInt T) f TI TO) ∧ h'.get? T = some oT) → IsPair h' TI (.ref i1) (.ref i2) → h'.IsListIter i1 l1 (i + 1) → h'.IsListIter i2 l2 (i + 1) → IsPair h' h.objs.size xs[i] ys[i] →
        (∀ c o, c ≠ z → c ≠ TO → c ≠ i1 → c ≠ i2 → h.get? c = some o → h'.get? c = some o) →
        wpAny (model prog w) A.in1 (updateSeq S (·.push (Value.ref h.objs.size)) >>= fun _ => (again (.builtin "list.extend.loop" ⟨[.ref S, .ref z, res], []⟩) : Sem PySem.Fin)) (fun fin s' => match fin with | .done f => R (.ok f) s' | .again c' => c'.quiet = true ∧ codeAny (model prog w) A c' R s') (fun e s' => R (.error e) s') { s with heap := h', toks := tk } := by
      intro h' hzz hTI' hi1' hi2' hnew hkp
      have hS' := hkp S _ S1 S3 S4 S5 hSo
      have up : ∀ b o, b ≠ S → h'.get? b = some o → (h'.update S (Obj.mapSeq (·.push (Value.ref h.objs.size)))).get? b = some o := fun b o hb e => (Heap.get?_update_other _ _ (Ne.symm hb)).trans e
      have hasS : ∀ a ∈ as ++ [h.objs.size], a ≠ S := fun a ha => by
        rcases List.mem_append.mp ha with ha | ha
        · exact Nat.ne_of_gt (Nat.lt_of_le_of_lt z2 (hG.above a ha))
        · rw [List.mem_singleton.mp ha]; exact Nat.ne_of_gt hSl
      refine wpAny_bind ?_
      refine wpAny_updateSeq hS' rfl (wpAny_pure ⟨plainId_quiet PySem.F.plain_extend_loop _, ih (i + 1) _ tk _ (acc.push (Value.ref h.objs.size)) (as ++ [h.objs.size]) (by omega) hlt ⟨up _ _ S2.symm hTI', hi1'.at fun o e => up _ o S4.symm e, hi2'.at fun o e => up _ o S5.symm e, .inr ?_⟩ ?_ ?_ ?_ (Heap.get?_update_self _ hS' rfl) ?_ ?_ ⟨?_, ?_, ?_⟩ ?_⟩) ?_
      · obtain ⟨T, f, oT, hm, e1, e2⟩ := hzz
        exact ⟨T, f, oT, hm, up _ _ S1.symm e1, up _ _ (hasS T hm) e2⟩
      · exact hL1.at fun o e => up _ o hl.1 (hkp _ o D.l1z D.l1TO D.l1i1 D.l1i2 e)
      · exact hL2.at fun o e => up _ o hl.2 (hkp _ o D.l2z D.l2TO D.l2i1 D.l2i2 e)
      · exact fun b o c1 c2 c3 c4 c5 e => up b o c1 (hkp b o c2 c3 c4 c5 (hkeep b o c1 c2 c3 c4 c5 e))
      · rw [Array.toList_push, hacc, List.map_append]; rfl
      · rw [List.length_append, hal]; rfl
      · refine List.nodup_append.mpr ⟨hG.nodup, by simp, fun a ha b hb e => ?_⟩
        rw [List.mem_singleton] at hb
        subst hb
        obtain ⟨j, hj, e1⟩ := List.mem_iff_getElem.mp ha
        obtain ⟨x, y, _, _, e3⟩ := hG.pairs j a (by rw [List.getElem?_eq_getElem hj, e1])
        have := Heap.lt_size e3
        rw [e] at this
        exact Nat.lt_irrefl _ this
      · intro a ha
        rcases List.mem_append.mp ha with ha | ha
        · exact hG.above a ha
        · rw [List.mem_singleton.mp ha]; exact hIs
      · intro j b hj
        have hbm := List.mem_of_getElem? hj
        by_cases hlt' : j < as.length
        · rw [List.getElem?_append_left hlt'] at hj
          obtain ⟨x, y, e1, e2, e3⟩ := hG.pairs j b hj
          have hb := hG.above b (List.mem_of_getElem? hj)
          exact ⟨x, y, e1, e2, up b _ (hasS b hbm) (hkp b _ (Nat.ne_of_gt (Nat.lt_of_le_of_lt z1 hb)) (Nat.ne_of_gt (Nat.lt_of_le_of_lt z3 hb)) (Nat.ne_of_gt (Nat.lt_of_le_of_lt z4 hb)) (Nat.ne_of_gt (Nat.lt_of_le_of_lt z5 hb)) e3)⟩
        · have hj' : j = as.length := by
            have := (List.getElem?_eq_some_iff.mp hj).1
            rw [List.length_append, List.length_singleton] at this
            omega
          subst hj'
          have hb : h.objs.size = b := by simpa using hj
          subst hb
          exact ⟨xs[i], ys[i], by rw [hal]; exact hx, by rw [hal]; exact hy, up _ _ (Nat.ne_of_gt hSl) hnew⟩
      · exact Nat.lt_trans hIs (Heap.lt_size (up _ _ (Nat.ne_of_gt hSl) hnew))
      · have : sizeLine = 16777216 := rfl
        first | (show (acc.push _).size ≤ sizeLine; rw [Array.size_push]; omega) | omega
    obtain ⟨hTI, hi1, hi2, ⟨h0, hz0, a, b, hTO⟩ | ⟨T, f, oT, hTm, hzT, hT⟩⟩ := hst
    · refine wpAny_bind (wpAny_pyNext_zip_item (A := A.in1) (s := { s with heap := h, toks := tk }) D hz0 hTI hTO hi1 hi2 hL1 hL2 hx hy fun h' a1 a2 a3 a4 a5 a6 hkp => fin h' ⟨h.objs.size, false, _, by simp, a1, a5⟩ ?_ a3 a4 a5 hkp)
      exact hkp _ _ D.TIz D.TITO D.TIi1 D.TIi2 hTI
    · refine wpAny_bind (pyNext_zip_more (A := A.in1) (s := { s with heap := h, toks := tk }) D hzT hT hTI hi1 hi2 hL1 hL2 hx hy fun h' a1 a3 a4 a5 a6 hkp => fin h' ⟨T, true, oT, List.mem_append_left _ hTm, a1, ?_⟩ ?_ a3 a4 a5 fun c o h1 _ h3 h4 e => hkp c o h1 h3 h4 e)
      · have := hG.above T hTm
        exact hkp T _ (Nat.ne_of_gt (Nat.lt_of_le_of_lt z1 this)) (Nat.ne_of_gt (Nat.lt_of_le_of_lt z4 this)) (Nat.ne_of_gt (Nat.lt_of_le_of_lt z5 this)) hT
      · exact hkp _ _ D.TIz D.TIi1 D.TIi2 hTI
end
end Mine

namespace Mine

section
variable {prog : Program} {w : World} {A : Around} {E : Value → Shared → Prop} {s : Shared}
theorem zip_no_len : typeLookup (.type "zip") "__len__" = pure none := by rw [typeLookup_type, builtinLookup_eq_fast]; kernel_rfl
theorem zip_no_hint : typeLookup (.type "zip") "__length_hint__" = pure none := by rw [typeLookup_type, builtinLookup_eq_fast]; kernel_rfl
theorem zip_hint {z : Addr} (hT : s.TypeIs (.ref z) "zip") {Q : Bool → Shared → Prop} (h : Q true s) : wpAny (model prog w) A (Builtin.List.listLengthHint (.ref z)) Q E s := by
  unfold Builtin.List.listLengthHint
  refine wpAny_bind (wpAny_specialOf hT zip_no_len ?_)
  refine wpAny_bind (wpAny_specialOf hT zip_no_hint ?_)
  exact wpAny_pure h
/-- a zip of two lists of one length, taken into the list S -/
theorem zip_extend {S z TI TO i1 i2 l1 l2 : Addr} {xs ys : Array Value} {R : Result → Shared → Prop} (hh : A.handled = none) (D : ZipApart z TI TO i1 i2 l1 l2) (hz : IsZip s.heap z TI TO .none) (hTI : IsPair s.heap TI (.ref i1) (.ref i2)) (hTO : ∃ a b, IsPair s.heap TO a b)
    (h1 : s.heap.IsListIter i1 l1 0) (h2 : s.heap.IsListIter i2 l2 0) (hL1 : s.heap.IsList l1 xs) (hL2 : s.heap.IsList l2 ys) (hne : S ≠ z ∧ S ≠ TI ∧ S ≠ TO ∧ S ≠ i1 ∧ S ≠ i2) (hl : l1 ≠ S ∧ l2 ≠ S) (hxy : xs.size = ys.size) (hn : xs.size ≤ 100000) (res : Value) (c₀ : Nat) (hS : s.heap.get? S = some { cls := .type "list", data := .seq #[] c₀ }) {lo : Addr} (hlo : z ≤ lo ∧ S ≤ lo ∧ TO ≤ lo ∧ i1 ≤ lo ∧ i2 ≤ lo) (hlt : lo < s.heap.objs.size)
    (hR : ∀ h' tk acc c as, (∀ b o, b ≠ S → b ≠ z → b ≠ TO → b ≠ i1 → b ≠ i2 → s.heap.get? b = some o → h'.get? b = some o) → h'.get? S = some { cls := .type "list", dict := none, data := .seq acc c, slots := #[] } → as.length = xs.size → Pairs2 xs ys lo h' as →
      acc.toList = as.map Value.ref → R (.ok (.ret res)) { s with heap := h', toks := tk }) :
    wpAny (model prog w) A.in1 (Builtin.List.listExtendWith (.ref S) (.ref z) res)
      (fun fin s' => match fin with | .done f => R (.ok f) s' | .again c' => c'.quiet = true ∧ codeAny (model prog w) A c' R s') (fun e s' => R (.error e) s') s := by
  have hT : s.TypeIs (.ref z) "zip" := ⟨_, hz, rfl⟩
  unfold Builtin.List.listExtendWith
  refine wpAny_bind (wpAny_typeOf hT ?_)
  have h1' : Builtin.List.listSameRef (.ref S) (.ref z) = false := by simp [Builtin.List.listSameRef, hne.1]
  have h2' : (Value.type "zip" == Value.type "list") = false := by decide
  have h3' : (Value.type "zip" == Value.type "tuple") = false := by decide
  simp only [h1', h2', h3', Bool.or_false, Bool.false_eq_true, if_false]
  refine wpAny_bind (wpAny_pyIter_zip hz ?_)
  refine wpAny_bind (wpAny_holding (zip_hint hT ?_))
  refine wpAny_ite_split (fun _ => ?_) (fun hb => absurd rfl hb)
  refine wpAny_bind (wpAny_rule ?_)
  refine wpAny_bind ?_
  show wpAny _ _ (updateSeq S (·.push .none) >>= fun _ => updateSeq S (·.pop)) _ _ _
  refine wpAny_bind (wpAny_updateSeq hS rfl ?_)
  have hS₂ := Heap.get?_update_self (Obj.mapSeq (·.push Value.none)) hS rfl
  refine wpAny_updateSeq (hz := by seq_fits) hS₂ rfl ?_
  have hS₃ := Heap.get?_update_self (Obj.mapSeq (·.pop)) hS₂ rfl
  have oth : ∀ b o, b ≠ S → s.heap.get? b = some o → ((s.heap.update S (Obj.mapSeq (·.push Value.none))).update S (Obj.mapSeq (·.pop))).get? b = some o := fun b o hb e => (Heap.get?_update_other _ _ (Ne.symm hb)).trans ((Heap.get?_update_other _ _ (Ne.symm hb)).trans e)
  refine wpAny_pure ⟨plainId_quiet PySem.F.plain_extend_loop _, ?_⟩
  obtain ⟨a, b, hTO⟩ := hTO
  exact zip_loop (s := s) (h₁ := s.heap) (lo := lo) hh D hne hl hxy hn res hlo hR xs.size 0 _ _ _ #[] [] (Nat.sub_zero _) (Nat.zero_le _) ⟨oth _ _ hne.2.1.symm hTI, h1.at fun o e => oth _ o hne.2.2.2.1.symm e, h2.at fun o e => oth _ o hne.2.2.2.2.symm e, .inl ⟨rfl, oth _ _ hne.1.symm hz, a, b, oth _ _ hne.2.2.1.symm hTO⟩⟩
    (hL1.at fun o e => oth _ o hl.1 e) (hL2.at fun o e => oth _ o hl.2 e) (fun b o hb _ _ _ _ e => oth b o hb e) hS₃ rfl rfl ⟨List.nodup_nil, (fun _ ha => nomatch ha), (fun j a hj => by simp at hj)⟩ (by rw [Heap.size_update, Heap.size_update]; exact hlt)
end
end Mine

namespace Mine

section
variable {prog : Program} {w : World} {A : Around} {E : Value → Shared → Prop} {s : Shared}
/-- list(z), z a zip of two lists of one length, made new -/
theorem call_list_zip {z TI TO i1 i2 l1 l2 : Addr} {xs ys : Array Value} {Q : Value → Shared → Prop} (hh : A.handled = none) (D : ZipApart z TI TO i1 i2 l1 l2) (hz : IsZip s.heap z TI TO .none) (hTI : IsPair s.heap TI (.ref i1) (.ref i2)) (hTO : ∃ a b, IsPair s.heap TO a b)
    (h1 : s.heap.IsListIter i1 l1 0) (h2 : s.heap.IsListIter i2 l2 0) (hL1 : s.heap.IsList l1 xs) (hL2 : s.heap.IsList l2 ys) (hxy : xs.size = ys.size) (hn : xs.size ≤ 100000)
    (hQ : ∀ h' tk acc c as, (∀ b o, b ≠ z → b ≠ TO → b ≠ i1 → b ≠ i2 → s.heap.get? b = some o → h'.get? b = some o) → h'.get? s.heap.objs.size = some { cls := .type "list", dict := none, data := .seq acc c, slots := #[] } → as.length = xs.size → Pairs2 xs ys s.heap.objs.size h' as →
      acc.toList = as.map Value.ref → Q (.ref s.heap.objs.size) { s with heap := h', toks := tk }) :
    wpAny (model prog w) A (call (.type "list") [.ref z]) Q E s := by
  refine callType_codes (Q₁ := fun obj s₁ => obj = .ref s.heap.objs.size ∧ s₁ = { s with heap := s.heap.push { cls := .type "list", data := .seq #[] } }) PySem.F.called_list (PySem.F.typeCall_list_1 _) PySem.F.entry_list_init
    (code_list_new _ ⟨rfl, rfl⟩) fun obj s₁ h₁ => ?_
  obtain ⟨rfl, rfl⟩ := h₁
  have hS : (s.heap.push { cls := .type "list", data := .seq #[] }).get? s.heap.objs.size = some { cls := .type "list", data := .seq #[] } := Heap.get?_push_size _ rfl
  obtain ⟨a, b, hTO⟩ := hTO
  have lz : z < s.heap.objs.size := Heap.lt_size hz
  have lTI : TI < s.heap.objs.size := Heap.lt_size hTI
  have lTO : TO < s.heap.objs.size := Heap.lt_size hTO
  have li1 : i1 < s.heap.objs.size := by obtain ⟨_, e, _⟩ := h1; exact Heap.lt_size e
  have li2 : i2 < s.heap.objs.size := by obtain ⟨_, e, _⟩ := h2; exact Heap.lt_size e
  have ll1 : l1 < s.heap.objs.size := by obtain ⟨_, e, _⟩ := hL1; exact Heap.lt_size e
  have ll2 : l2 < s.heap.objs.size := by obtain ⟨_, e, _⟩ := hL2; exact Heap.lt_size e
  refine ⟨⟨_, hS, rfl⟩, PySem.F.args_list_init_2 _ _, ?_⟩
  show wpAny _ _ (do let old ← Builtin.List.listItems (.ref s.heap.objs.size); Builtin.List.listUpdate (.ref s.heap.objs.size) (fun _ => #[]); letGo old.toList.reverse; Builtin.List.listExtendWith (.ref s.heap.objs.size) (.ref z) .none) _ _ _
  refine wpAny_bind ?_
  unfold Builtin.List.listItems
  refine wpAny_bind (wpAny_seqItems hS rfl (wpAny_pure ?_))
  show wpAny _ _ (updateSeq s.heap.objs.size (fun _ => #[]) >>= fun _ => letGo (#[] : Array Value).toList.reverse >>= fun _ => Builtin.List.listExtendWith (.ref s.heap.objs.size) (.ref z) .none) _ _ _
  refine wpAny_bind (wpAny_updateSeq hS rfl ?_)
  have hS₂ := Heap.get?_update_self (Obj.mapSeq (fun _ => (#[] : Array Value))) hS rfl
  have oth : ∀ b o, b ≠ s.heap.objs.size → s.heap.get? b = some o → ((s.heap.push { cls := .type "list", data := .seq #[] }).update s.heap.objs.size (Obj.mapSeq (fun _ => (#[] : Array Value)))).get? b = some o :=
    fun b o hb e => (Heap.get?_update_other _ _ (Ne.symm hb)).trans (Heap.get?_push_of_some _ e)
  refine wpAny_bind (wpAny_letGo ?_)
  refine zip_extend (A := A.in1) (lo := s.heap.objs.size) hh D (oth _ _ (Nat.ne_of_lt lz) hz) (oth _ _ (Nat.ne_of_lt lTI) hTI) ⟨a, b, oth _ _ (Nat.ne_of_lt lTO) hTO⟩ (h1.at fun o e => oth _ o (Nat.ne_of_lt li1) e) (h2.at fun o e => oth _ o (Nat.ne_of_lt li2) e) (hL1.at fun o e => oth _ o (Nat.ne_of_lt ll1) e) (hL2.at fun o e => oth _ o (Nat.ne_of_lt ll2) e)
    ⟨Nat.ne_of_gt lz, Nat.ne_of_gt lTI, Nat.ne_of_gt lTO, Nat.ne_of_gt li1, Nat.ne_of_gt li2⟩ ⟨Nat.ne_of_lt ll1, Nat.ne_of_lt ll2⟩ hxy hn .none _ hS₂ ⟨Nat.le_of_lt lz, Nat.le_refl _, Nat.le_of_lt lTO, Nat.le_of_lt li1, Nat.le_of_lt li2⟩ (by rw [Heap.size_update, Heap.size_push]; exact Nat.lt_succ_self _) fun h' tk acc c as hk hS' hlen hG hacc => ?_
  exact ⟨rfl, hQ h' tk acc c as (fun b o h1 h2 h3 h4 e => hk b o (Nat.ne_of_lt (Heap.lt_size e)) h1 h2 h3 h4 (oth b o (Nat.ne_of_lt (Heap.lt_size e)) e)) hS' hlen hG hacc⟩
end
end Mine

namespace Mine

section
variable {prog : Program} {w : World} {H : Heap} {A : Around} {a a' : Act} {ρ ρ' : Rho} {O O' O₁ Oe Ow Ow' Oz : List (Addr × OD)} {T T' Tn Tw : List (Value × D)} {φ φ' : FM} {m m' : Str → Option Value} {h h' : Heap} {mg mb : Str → Option Value}

/-- new things, all frozen -/
theorem St.allNew (K : St prog w H a ρ O T h) (hk : Keep h h')
    (hT : ∀ φ' : FM, (∀ p ∈ T, Rd prog w φ' p.1 p.2) → (∀ b o, h.get? b = none → h'.get? b = some o → φ' b = some o) → ∀ p ∈ Tn, Rd prog w φ' p.1 p.2) : St prog w H a ρ O (Tn ++ T) h' := by
  let F : FM := fun b => match h.get? b with | none => h'.get? b | some _ => none
  have hF : ∀ b o, F b = some o → h.get? b = none ∧ h'.get? b = some o := by
    intro b o e
    have e' : (match h.get? b with | none => h'.get? b | some _ => none) = some o := e
    cases hb : h.get? b with
    | none => rw [hb] at e'; exact ⟨rfl, e'⟩
    | some o' => rw [hb] at e'; cases e'
  refine St.step (Ow := []) (Ow' := []) K rfl (fun b o _ e => hk b o e) F hF (fun _ _ _ _ _ hp => nomatch hp) fun φ' h1 h2 _ => hT φ' h1 fun b o hb e => h2 b o ?_
  show (match h.get? b with | none => h'.get? b | some _ => none) = some o
  rw [hb]; exact e

noncomputable def pairD (ds es : List D) : List D := ds.zipWith (fun d e => D.tup [d, e]) es
theorem RdAll.refs {φ : FM} : ∀ (as : List Addr) (ds : List D), as.length = ds.length → (∀ (j : Nat) (b : Addr) (d : D), as[j]? = some b → ds[j]? = some d → Rd prog w φ (.ref b) d) → RdAll prog w φ (as.map Value.ref) ds
  | [], [], _, _ => .nil
  | a :: as, d :: ds, hl, hg => .cons (hg 0 a d rfl rfl) (RdAll.refs as ds (by simpa using hl) fun j b d h1 h2 => hg (j + 1) b d h1 h2)
  | [], _ :: _, hl, _ => by simp at hl
  | _ :: _, [], hl, _ => by simp at hl

theorem Ev.listZip {np pos np' pos' : Pos} {e₁ e₂ : Expr} {ds es : List D} (hh : A.handled = none) (W : Wo prog w H mg mb) (hx : a.env.kindOf "zip" = some .globalImplicit) (he : nsIn (hd.heap_1 w.params) mainGlobals "zip" = some none)
    (hx' : a.env.kindOf "list" = some .globalImplicit) (he' : nsIn (hd.heap_1 w.params) mainGlobals "list" = some none) (hlen : ds.length = es.length) (hsz : ds.length ≤ 100000)
    (x : Ev prog w H A a ρ O e₁ (.list ds)) (y : Ev prog w H A a ρ O e₂ (.list es)) (hs1 : starEach [e₁, e₂] a.env = (false, eval e₁ a.env) :: starEach [e₂] a.env := by rfl) (hs2 : starEach [e₂] a.env = (false, eval e₂ a.env) :: starEach [] a.env := by rfl) (hp : (backTo pos (starEach [e₂] a.env)).any (·.1) = false := by rfl)
    (hs3 : starEach [.Call (.Name "zip" np) [e₁, e₂] [] pos] a.env = (false, eval (.Call (.Name "zip" np) [e₁, e₂] [] pos) a.env) :: starEach [] a.env := by rfl) (hp' : (backTo pos' (starEach [] a.env)).any (·.1) = false := by rfl) :
    Ev prog w H A a ρ O (.Call (.Name "list" np') [.Call (.Name "zip" np) [e₁, e₂] [] pos] [] pos') (.list (pairD ds es)) :=
  fun T => Tr.of fun s R K hR => by
    refine Call_Name rfl (nameB (v := .type "list") W K he' (by rfl) (by decide) hx' ?_)
    refine PyProof.Rows.callWith_type1 (wpAny_items_cons ?_ hs3) hs3 hp'
    refine Call_Name rfl (nameB (v := .type "zip") W K he (by rfl) (by decide) hx ?_)
    refine PyProof.Rows.callWith_type1 (((EvL.cons x (EvL.cons y EvL.nil hs2) hs1) pos T).use K fun vs h' tk q => ?_) hs1 hp
    obtain ⟨hl, q⟩ := q
    obtain ⟨v1, v2, rfl⟩ := len2 hl
    · obtain ⟨l1, us1, n1, rfl, hl1, hlen1, q₁⟩ := q.listRaw (.head _)
      obtain ⟨l2, us2, n2, rfl, hl2, hlen2, q₂⟩ := q₁.listRaw (v := v2) (ds := es) (.tail _ (List.mem_append_right _ (.tail _ (.head _))))
      have hL1 : h'.IsList l1 us1.toArray := ⟨_, hl1, rfl, n1, rfl⟩
      have hL2 : h'.IsList l2 us2.toArray := ⟨_, hl2, rfl, n2, rfl⟩
      have hlt1 := Heap.lt_size hl1
      have hlt2 := Heap.lt_size hl2
      refine call_zip_2 (s := { s with heap := h', toks := tk }) hL1 hL2 fun h₂ hZ hTI hTO hI1 hI2 hsz2 hk => ?_
      refine wpAny_items_nil ?_
      have AP := apart_zip h'.objs.size l1 l2 hlt1 hlt2
      have hxy : us1.toArray.size = us2.toArray.size := by rw [List.size_toArray, List.size_toArray, hlen1, hlen2, hlen]
      refine call_list_zip (s := { s with heap := h₂, toks := tk }) hh AP hZ hTI ⟨_, _, hTO⟩ hI1 hI2 (hL1.at fun o e => hk _ _ e) (hL2.at fun o e => hk _ _ e) hxy (by rw [List.size_toArray, hlen1]; exact hsz) fun h₃ tk₃ acc c as hk3 hS3 hal hG hacc => ?_
      have hkp : Keep h' h₃ := fun b o e => by
        have hb : (b : Nat) < h'.objs.size := Heap.lt_size e
        refine hk3 b o ?_ ?_ ?_ ?_ (hk _ _ e)
        · exact Nat.ne_of_lt (Nat.lt_of_lt_of_le hb (Nat.le_add_right _ _))
        · exact Nat.ne_of_lt (Nat.lt_of_lt_of_le hb (Nat.le_add_right _ _))
        · exact Nat.ne_of_lt hb
        · exact Nat.ne_of_lt (Nat.lt_of_lt_of_le hb (Nat.le_add_right _ _))
      have big : h'.objs.size ≤ h₂.objs.size := Nat.le_of_lt (Nat.lt_of_lt_of_le (Nat.lt_succ_of_le (Nat.le_add_right _ 4)) (Heap.lt_size hZ))
      refine hR _ _ _ (St.sub (St.allNew (Tn := [(.ref h₂.objs.size, .list (pairD ds es))]) q₂ hkp ?_) fun p hp => ?_)
      · intro φ' hT hφ p hp
        rw [List.mem_singleton] at hp
        subst hp
        have e0 := hφ h₂.objs.size _ (fresh_ge big) hS3
        have hae : acc = (as.map Value.ref).toArray := by rw [← hacc]
        rw [hae] at e0
        have hpl : as.length = (pairD ds es).length := by
          unfold pairD
          rw [hal, List.size_toArray, hlen1, List.length_zipWith, ← hlen, Nat.min_self]
        refine .list (vs := as.map Value.ref) (n := c) e0 (RdAll.refs as _ hpl fun j b d h1 h2 => ?_)
        obtain ⟨x, y, ex, ey, hp⟩ := hG.pairs j b h1
        have hb := hG.above b (List.mem_of_getElem? h1)
        have hx' : us1[j]? = some x := by simpa using ex
        have hy' : us2[j]? = some y := by simpa using ey
        have hi1 : j < ds.length := hlen1 ▸ (List.getElem?_eq_some_iff.mp hx').1
        have hi2 : j < es.length := hlen2 ▸ (List.getElem?_eq_some_iff.mp hy').1
        unfold pairD at h2
        rw [List.getElem?_zipWith, List.getElem?_eq_getElem hi1, List.getElem?_eq_getElem hi2] at h2
        cases h2
        have hm1 : (x, ds[j]) ∈ us1.zip ds := List.mem_of_getElem? (i := j) (by rw [List.getElem?_zip_eq_some]; exact ⟨hx', List.getElem?_eq_getElem hi1⟩)
        have hm2 : (y, es[j]) ∈ us2.zip es := List.mem_of_getElem? (i := j) (by rw [List.getElem?_zip_eq_some]; exact ⟨hy', List.getElem?_eq_getElem hi2⟩)
        refine .tup (vs := [x, y]) (hφ b _ (fresh_ge (Nat.le_trans big (Nat.le_of_lt hb))) hp) (.cons (hT (x, ds[j]) ?_) (.cons (hT (y, es[j]) ?_) .nil))
        · exact .tail _ (List.mem_append_right _ (.tail _ (List.mem_append_left _ hm1)))
        · exact .tail _ (List.mem_append_left _ hm2)
      · rcases List.mem_cons.mp hp with rfl | hp
        · exact .head _
        · exact .tail _ (.tail _ (List.mem_append_right _ (.tail _ (List.mem_append_right _ (by simpa using Or.inr (Or.inr hp))))))
end
end Mine

namespace Mine

section
variable {prog : Program} {w : World} {H : Heap} {A : Around} {a a' : Act} {ρ ρ' : Rho} {O O' O₁ Oe Ow Ow' Oz : List (Addr × OD)} {T T' Tn Tw : List (Value × D)} {mg mb : Str → Option Value}

/-- two names for the pairs of a list -/
theorem CompM.pair {scope : Scope} {x y : Str} {px py tp : Pos} {k : Nat} {elt : Expr} {α : Type} {xs : List α} {g1 g2 : α → D} {f : α → D} (hh : A.handled = none) (hx : capRho a scope ρ x = none) (hy : capRho a scope ρ y = none) (hs : ∀ C Φ h₀, Storable (cact a scope C Φ h₀) x) (hs' : ∀ C Φ h₀, Storable (cact a scope C Φ h₀) y)
    (e : ∀ z ∈ xs, ∀ C Φ h₀ O, Ev prog w H A (cact a scope C Φ h₀) (upd (upd (capRho a scope ρ) x (.val (g1 z))) y (.val (g2 z))) O elt (f z)) : CompM prog w H A a ρ scope (.Tuple [.Name x px, .Name y py] k tp) [] elt xs (fun z => .tup [g1 z, g2 z]) (fun _ => true) f where
  parts := fun z hz => ⟨_, fun u b hu => by
    unfold upd
    by_cases h : u = y
    · subst h; rw [hy] at hu; cases hu
    · rw [if_neg h]
      by_cases h : u = x
      · subst h; rw [hx] at hu; cases hu
      · rw [if_neg h]; exact hu, fun C Φ h₀ => ⟨Asg.tuple hh (AsgL.cons (Asg.name (hs C Φ h₀)) (AsgL.cons (Asg.name (hs' C Φ h₀)) AsgL.nil)) rfl rfl, fun O T => tests_nil, fun _ O => e z hz C Φ h₀ O⟩⟩
/-- two names and a test -/
theorem CompM.twoIf {scope : Scope} {x y : Str} {px py tp : Pos} {k : Nat} {elt c : Expr} {α : Type} {xs : List α} {g1 g2 : α → D} {p : α → Bool} {f : α → D} (hh : A.handled = none) (hx : capRho a scope ρ x = none) (hy : capRho a scope ρ y = none) (hs : ∀ C Φ h₀, Storable (cact a scope C Φ h₀) x) (hs' : ∀ C Φ h₀, Storable (cact a scope C Φ h₀) y)
    (t : ∀ z ∈ xs, ∀ C Φ h₀ O, Tt prog w H A (cact a scope C Φ h₀) (upd (upd (capRho a scope ρ) x (.val (g1 z))) y (.val (g2 z))) O c (p z))
    (e : ∀ z ∈ xs, p z = true → ∀ C Φ h₀ O, Ev prog w H A (cact a scope C Φ h₀) (upd (upd (capRho a scope ρ) x (.val (g1 z))) y (.val (g2 z))) O elt (f z)) : CompM prog w H A a ρ scope (.Tuple [.Name x px, .Name y py] k tp) [c] elt xs (fun z => .tupg [g1 z, g2 z]) p f where
  parts := fun z hz => ⟨_, fun u b hu => by
    unfold upd
    by_cases h : u = y
    · subst h; rw [hy] at hu; cases hu
    · rw [if_neg h]
      by_cases h : u = x
      · subst h; rw [hx] at hu; cases hu
      · rw [if_neg h]; exact hu, fun C Φ h₀ => ⟨Asg.tupg hh (AsgL.cons (Asg.name (hs C Φ h₀)) (AsgL.cons (Asg.name (hs' C Φ h₀)) AsgL.nil)) rfl rfl, fun O T => tests_one (t z hz C Φ h₀ O), fun hp O => e z hz hp C Φ h₀ O⟩⟩
theorem pairD_map {α β : Type} (g : α → D) (k : β → D) (xs : List α) (ys : List β) : pairD (xs.map g) (ys.map k) = (xs.zip ys).map fun p => .tup [g p.1, k p.2] := by
  unfold pairD
  apply List.ext_getElem?
  intro i
  rw [List.getElem?_zipWith, List.getElem?_map, List.getElem?_map, List.getElem?_map]
  cases hx : xs[i]? with
  | none => rw [show (xs.zip ys)[i]? = none by rw [List.getElem?_eq_none_iff] at hx ⊢; rw [List.length_zip]; omega]; rfl
  | some x =>
    cases hy : ys[i]? with
    | none => rw [show (xs.zip ys)[i]? = none by rw [List.getElem?_eq_none_iff] at hy ⊢; rw [List.length_zip]; omega]; rfl
    | some y => rw [show (xs.zip ys)[i]? = some (x, y) by rw [List.getElem?_zip_eq_some]; exact ⟨hx, hy⟩]; rfl

theorem ex_assign_comp2 {x : Str} {px : Pos} {elt t0 it0 t1 it1 : Expr} {scope : Scope} {pos spos : Pos} {es : List D} {es1 : Nat → List D} {f : Nat → Nat → D} (it : EvIt prog w H A a ρ O O [] t0 it0 es) (X : CompOf2 prog w H A a ρ scope t0 t1 it1 elt es es1 f)
    (hsz : (rows es1 f es.length).length ≤ sizeLine) (hst : Storable a x) (hok : capOk scope a.env = true := by rfl) (hs : ∀ x, foldedSetIterable it0 a.env x = pure x := by intro _; rfl) (hs1 : ∀ C Φ h₀ x, foldedSetIterable it1 (cact a scope C Φ h₀).env x = pure x := by intro _ _ _ _; rfl)
    (hsw : swapsWith (.ListComp elt [⟨t0, it0, [], 0⟩, ⟨t1, it1, [], 0⟩] scope pos) (some (.Name x px)) spos.line a.env = pure true := by rfl) :
    Tr prog w A (exec (.Assign [.Name x px] (.ListComp elt [⟨t0, it0, [], 0⟩, ⟨t1, it1, [], 0⟩] scope pos) spos) a.env) (St prog w H a ρ O T) (Nx (St prog w H a (upd ρ x (.val (.list (rows es1 f es.length)))) O T)) :=
  Tr.of fun s R K hR => by
    rw [exec_Assign_Name_used _ _ _ _ hsw]
    refine wpAny_bind (wpAny_standAt (wpAny_bind ?_))
    show wpAny _ A (do let _ ← comprehension (.ListComp elt [⟨t0, it0, [], 0⟩, ⟨t1, it1, [], 0⟩] scope pos) scope a.env _ (newList []) false (eval it0 a.env) (some (assign (.Name x px) a.env))) _ _ s
    refine wpAny_bind (wpAny_mono (comp_base (Q := fun _ s' => R .next s') (E := fun _ _ => False) (g := ⟨t0, it0, [], 0⟩) (gs := [⟨t1, it1, [], 0⟩]) (use := some (assign (.Name x px) a.env)) (od0 := .list []) (od1 := .list (rows es1 f es.length)) (d := .list (rows es1 f es.length)) rfl hs hok acc_list it
      (fun C Φ h₀ Dd I X' Ow Tw S hX s K => listcomp2_inner hsz X hs1 S hX s K) (fun a' ρ' T' h' Dd _ K => K.freeze) K ?_) (fun _ s' hq => wpAny_pure (wpAny_pure hq)) fun _ _ e => e.elim)
    intro C Dd h' tk oC K' hns
    obtain ⟨m, oN, es', ep', hoN, hr⟩ := hns
    show wpAny _ A (assign (.Name x px) a.env (.ref Dd)) _ _ _
    have hoC : oN = oC := by
      obtain ⟨φ, m, q⟩ := K'
      obtain ⟨o', ho', e⟩ := q.own _ (.head _)
      have : o' = oC := e
      rw [hoN] at ho'
      rw [← this]; exact Option.some.inj ho'
    refine wpAny_assign_Name (storeB (b := .val (.list (rows es1 f es.length))) K' hst (fun φ hT => hT _ (.head _)) fun h'' tk' K'' => ?_)
    have hoC'' : h''.get? C = some oN := by
      obtain ⟨φ, m, q⟩ := K''
      obtain ⟨o', ho', e⟩ := q.own _ (.head _)
      have : o' = oC := e
      rw [hoC, ← this]; exact ho'
    exact ⟨m, ⟨oN, es', ep', hoC'', hr⟩, fun h₃ hs₃ => hR _ _ _ ⟨rfl, (St.lose K'' fun b o hb e => (hs₃.2 b hb).trans e).tail⟩⟩

/-- a call of a def from outside -/
theorem PL.top {f : Addr} {o : Obj} {fd : FuncData} {body : List Stmt} {xs : List Str} {ds : List D} {d : D} {n : Nat} {φ : FM} {vs : List Value} {E : Value → Shared → Prop} {Q : Value → Shared → Prop} {s : Shared} (W : Wo prog w s.heap mg mb) (r : Room A (n + 1)) (hvs : vs.length = ds.length)
    (hsub : ∀ b o, φ b = some o → s.heap.get? b = some o) (htmp : ∀ p ∈ vs.zip ds, Rd prog w φ p.1 p.2)
    (hl : (hd.heap_1 w.params).lookup f = some o) (hdata : o.data = .func fd)
    (hcd : codeIn (hd.heap_1 w.params) fd.code fd.qualname = true) (hbody : fd.body = .stmts body) (hclo : fd.closure = [])
    (hbind : ∀ vs : List Value, vs.length = xs.length → bindArgs fd ⟨vs, []⟩ = pure (xs.zip vs)) (hlen : ds.length = xs.length) (hxs : xs.Nodup)
    (hkind : (xs.all fun x => fd.scope.names.lookup x == some .local || (fd.scope.names.lookup x == some .cell && ((cellsFrom 0 fd.scope.names []).lookup x).isSome)) = true)
    (hcells : ((cellsFrom 0 fd.scope.names []).map (·.1)).Nodup) (hgl : fd.globals = mainGlobals) (hbl : fd.builtins = builtinsNs)
    (hb : ∀ A' L Φ h₀, Room A' n → Tr prog w A' (execs body (fact fd f L Φ h₀).env) (St prog w s.heap (fact fd f L Φ h₀) (argRho xs ds) [] [])
      (fun fl h => ∃ v ρ' O' T', fl = .ret v ∧ St prog w s.heap (fact fd f L Φ h₀) ρ' O' ((v, d) :: T') h))
    (hQ : ∀ v φ' h' tk, Keep s.heap h' → Rd prog w φ' v d → Q v { s with heap := h', toks := tk })
    (hco : fd.scope.isCoroutine = false := by rfl) (hgen : fd.scope.isGenerator = false := by rfl) (hk : fd.scope.kind = .function := by rfl) :
    wpAny (model prog w) A (call (.ref f) vs) Q E s := by
  have hvx : vs.length = xs.length := hvs.trans hlen
  have hcn : ∀ n, ((cellsFrom n fd.scope.names []).map (·.1)).Nodup := fun n => by rw [cellsFrom_names fd.scope.names n 0 [] [] rfl]; exact hcells
  have hcs : ∀ n x, ((cellsFrom 0 fd.scope.names []).lookup x).isSome = true → ((cellsFrom n fd.scope.names []).lookup x).isSome = true := by
    intro n x hx
    obtain ⟨c, hc⟩ := Option.isSome_iff_exists.mp hx
    have h1 := List.mem_map_of_mem (f := (·.1)) (mem_of_lookup hc)
    rw [cellsFrom_names fd.scope.names 0 n [] [] rfl] at h1
    obtain ⟨p, hp, e⟩ := List.mem_map.mp h1
    have : (x, p.2) ∈ cellsFrom n fd.scope.names [] := by rw [← (show p.1 = x from e)]; exact hp
    rw [lookup_of_mem_nodup (hcn n) this]; rfl
  have hfst : (xs.zip vs).map (·.1) = xs := zip_fst hvx
  have hkx : ∀ x ∈ xs, fd.scope.names.lookup x = some .local ∨ (fd.scope.names.lookup x = some .cell ∧ ((cellsFrom 0 fd.scope.names []).lookup x).isSome = true) := by
    intro x hx
    have := List.all_eq_true.mp hkind x hx
    simpa using this
  refine wpAny_call (codeAny_call_cells r.lt (W.X _ _ hl) hdata W.lim (codeRec_of (fun a o e => W.X a o e) hcd) hbody (hbind vs hvx) hclo ?_ ?_ hco hgen hk)
  · intro x hx
    have hx' : x.1 ∈ xs := hfst ▸ List.mem_map_of_mem (f := (·.1)) hx
    rcases hkx _ hx' with e | ⟨e, e'⟩
    · exact .inl e
    · exact .inr ⟨e, hcs _ _ e'⟩
  · intro s₁ X
    have hC : (callEnvC fd s.heap.objs.size f).cells = cellsFrom (s.heap.objs.size + 1) fd.scope.names [] := rfl
    obtain ⟨h₁, tk, rfl⟩ := X.toInCall.same
    have kp := X.toInCall.keep
    have free : ∀ b, s.heap.objs.size ≤ b → s.heap.get? b = none := fun b hb => fresh_ge hb
    have pfree : ∀ b, s.heap.objs.size ≤ b → φ b = none := fun b hb => by
      cases e : φ b with
      | none => rfl
      | some o => exact absurd (hsub b o e) (by rw [free b hb]; intro h; cases h)
    have above : ∀ p ∈ cellsFrom (s.heap.objs.size + 1) fd.scope.names [], s.heap.objs.size < p.2 := fun p hp => X.above p.1 p.2 hp
    have q1 : Core prog w s.heap (fact fd f s.heap.objs.size φ s.heap) (argRho xs ds) [] [] φ (bindL (callEnvC fd s.heap.objs.size f).kindOf (xs.zip vs) fun _ => none) h₁ := by
      refine { wb := Keep.refl _, base := kp, ext := fun _ _ e => e, sub := fun b o e => kp b o (hsub b o e), new := fun b o e => .inl e, ns := X.toInCall.ns, fn := hk, gl := hgl, bl := hbl, look := ?_, cells := ?_, own := (fun p hp => nomatch hp), nodup := ?_, mutd := ?_, names := ?_, temps := (fun p hp => nomatch hp) }
      · intro x c hc
        exact .inl (mem_of_lookup hc)
      · intro p hp
        exact ⟨_, X.cell p.1 p.2 (lookup_of_mem_nodup (hcn _) hp)⟩
      · show (s.heap.objs.size :: ((cellsFrom (s.heap.objs.size + 1) fd.scope.names []).map (·.2) ++ [])).Nodup
        rw [List.append_nil]
        refine List.nodup_cons.mpr ⟨fun hm => ?_, ?_⟩
        · obtain ⟨p, hp, e⟩ := List.mem_map.mp hm
          exact absurd (above p hp) (by rw [e]; exact Nat.lt_irrefl _)
        · have := X.apart
          rw [hC] at this
          exact List.pairwise_map.mpr this
      · intro b hb
        have hle : s.heap.objs.size ≤ b := by
          rcases List.mem_cons.mp hb with rfl | hb
          · exact Nat.le_refl _
          · rw [List.map_nil, List.append_nil] at hb
            obtain ⟨p, hp, rfl⟩ := List.mem_map.mp hb
            exact Nat.le_of_lt (above p hp)
        exact ⟨pfree b hle, free b hle⟩
      · intro x b e
        have e' : ((xs.zip ds).lookup x).map B.val = some b := e
        obtain ⟨d', hd', rfl⟩ := Option.map_eq_some_iff.mp e'
        obtain ⟨v, h1, h2⟩ := zip_three hvs (mem_of_lookup hd')
        have hx' : x ∈ xs := hfst ▸ List.mem_map_of_mem (f := (·.1)) h1
        refine ⟨v, htmp _ h2, ?_⟩
        rcases hkx x hx' with k | ⟨k, k'⟩
        · exact .inl ⟨k, bindL_of k (hfst.symm ▸ hxs) h1⟩
        · obtain ⟨c, hc⟩ := Option.isSome_iff_exists.mp (hcs (s.heap.objs.size + 1) x k')
          refine .inr ⟨.inl k, c, hc, ?_⟩
          have := X.cell x c hc
          rwa [bindC_of k (hfst.symm ▸ hxs) h1] at this
    refine (hb _ s.heap.objs.size φ s.heap (r.deeper _)).use (s := { s with heap := h₁, toks := tk }) ⟨φ, _, q1⟩ fun fl h' tk' k => ?_
    obtain ⟨v, ρ', O', T', rfl, φ', m', q'⟩ := k
    exact hQ v φ' h' tk' q'.base (q'.temps _ (.head _))
end
end Mine

namespace Mine

/-! what the law makes -/
noncomputable def lawT (ns : List Int) : Nat := ((ns.sum.fdiv 2).fmod 3).toNat
noncomputable def lawP (ns : List Int) : List P3 := ptsOf ns (lawT ns)
noncomputable def lawL (ns : List Int) : List (List Int) := (lawP ns).map l3
noncomputable def lawTab (ns : List Int) : List (Str × Int) := tab (wordsS 2) (lawL ns)
noncomputable def lawW (ns : List Int) : List Str := wordsS 3 (lawL ns)
noncomputable def lawWay (ns : List Int) : Int := 2 * ns.sum.fmod 2 - 1
noncomputable def lawCs (ns : List Int) : List (Int × Int) := [(2, 3 * lawWay ns), (1, 2 * lawWay ns), (0, lawWay ns)]
noncomputable def lawR (ns : List Int) : List (List Int) := repAt (lawCs ns) (prods (lawW ns)) (prods (lawW ns)).length
noncomputable def lawO (ns : List Int) : List (List Int) := pickL (lawR ns) none none (some (lawWay ns))
noncomputable def toN (p : List Int) : N3 := ((p.getD 0 0).toNat, (p.getD 1 0).toNat, (p.getD 2 0).toNat)
noncomputable def lawRec (ns : List Int) : List Str := (agents (lawW ns)).take 1 ++ [one 42] ++ (agents (lawW ns)).drop 1
noncomputable def headOf (i j k : Nat) : Str := one 42 ++ Txt.upper (nameMid i j k)
noncomputable def lawTold (ns : List Int) (p : List Int) : Bool := appl (lawRec ns) (Txt.lower (headOf (toN p).1 (toN p).2.1 (toN p).2.2))
noncomputable def lawDue (ns : List Int) : List Bool := (stAt (lawP ns) ((lawO ns).map toN) ((lawO ns).map toN).length).2
noncomputable def lawHs (ns : List Int) : List Int := sortI ((lawL ns).map fun p => p.headD 0)
noncomputable def firstAt (hs : List Int) : List (Int × Nat) := hs.zipIdx.filter fun p => !((hs.take p.2).any (· == p.1))
noncomputable def lawCounts (ns : List Int) : List Int := ((firstAt (lawHs ns)).map fun p => (p.2 : Int)) ++ [((lawHs ns).length : Int)]
noncomputable def lawCalls (ns : List Int) : List Int := (List.range ((firsts (lawL ns)).length + 1)).map fun i => psum (tabAt (wordsS 2) (lawL ns) i) (tabAt (wordsS 2) (lawL ns) i).length
noncomputable def lawPairs (ns : List Int) : List (List Int × List Int) := (lawR ns).zip ((lawR ns).drop 1 ++ (lawR ns).drop ((lawR ns).length - 1))

structure LawOk (ns : List Int) : Prop where
  counts : lawCalls ns = lawCounts ns
  twice : psum (addC (lawTab ns) (lawTab ns)) (addC (lawTab ns) (lawTab ns)).length = 2 * ((lawL ns).length : Int)
  nostar : (agents (lawW ns)).contains (one 42) = false
  steps : (lawPairs ns).map (fun p => cmpOf (lawCs ns) p.1 p.2) = (lawPairs ns).map fun p => stepOf p.1 p.2
  same : (lawO ns).map (lawTold ns) = lawDue ns
  small : ∀ p ∈ prods (lawW ns), p.length = 3 ∧ ∀ x ∈ p, 0 ≤ x ∧ x ≤ 20
  split : ∀ i j k, i ≤ 20 → j ≤ 20 → k ≤ 20 → (Txt.split (nameOf i j k) (one 47))[0]? = some (headOf i j k)
  agl : ∀ ag ∈ agents (lawW ns), ag.length ≤ 1000

theorem lawT_lt (ns : List Int) : lawT ns < 3 := by
  unfold lawT
  have h1 := Int.fmod_lt_of_pos (ns.sum.fdiv 2) (show (0 : Int) < 3 by decide)
  have h2 := Int.fmod_nonneg_of_pos (ns.sum.fdiv 2) (show (0 : Int) < 3 by decide)
  omega
theorem lawT_int (ns : List Int) : ((lawT ns : Nat) : Int) = (ns.sum.fdiv 2).fmod 3 := by
  unfold lawT
  have h2 := Int.fmod_nonneg_of_pos (ns.sum.fdiv 2) (show (0 : Int) < 3 by decide)
  omega
theorem way_cases (ns : List Int) : lawWay ns = 1 ∨ lawWay ns = -1 := by
  unfold lawWay
  have h1 := Int.fmod_lt_of_pos ns.sum (show (0 : Int) < 2 by decide)
  have h2 := Int.fmod_nonneg_of_pos ns.sum (show (0 : Int) < 2 by decide)
  omega
theorem smallOk {a b : Int} (ha : -8 ≤ a ∧ a ≤ 8) (hb : -8 ≤ b ∧ b ≤ 8) : IntMulOk a b :=
  have e : top 2 = 8 := by decide
  mulOk (r := 2) (k := 2) (by decide) (by decide) (by rw [e]; exact ha) (by rw [e]; exact hb)
theorem three_mod (n : Int) : n.fmod 3 - 1 = -1 ∨ n.fmod 3 - 1 = 0 ∨ n.fmod 3 - 1 = 1 := by
  have h1 := Int.fmod_lt_of_pos n (show (0 : Int) < 3 by decide)
  have h2 := Int.fmod_nonneg_of_pos n (show (0 : Int) < 3 by decide)
  omega
theorem three_pt (n : Int) : three3 (ptOf n) := ⟨three_mod _, three_mod _, three_mod _⟩
theorem three_rot {q : P3} (h : three3 q) (t : Nat) : three3 (rot t q) := by
  obtain ⟨a, b, c⟩ := h
  match t with
  | 0 => exact ⟨a, b, c⟩
  | 1 => exact ⟨b, c, a⟩
  | _ + 2 => exact ⟨c, a, b⟩
theorem pts1_three (ms : List Int) : ∀ k, ∀ q ∈ pts1 ms k, three3 q := by
  intro k
  unfold pts1
  suffices ∀ (l : List Int) (acc : List P3), (∀ q ∈ acc, three3 q) → ∀ q ∈ l.foldl (fun acc n => addP acc (ptOf n)) acc, three3 q from this _ _ (fun _ h => nomatch h)
  intro l
  induction l with
  | nil => intro acc h; exact h
  | cons x l ih =>
    intro acc h
    refine ih _ fun q hq => ?_
    have hq : q ∈ addP acc (ptOf x) := hq
    unfold addP at hq
    split at hq
    · exact h q hq
    · rcases List.mem_append.mp hq with hq | hq
      · exact h q hq
      · rw [List.mem_singleton.mp hq]; exact three_pt x
theorem lawP_three (ns : List Int) : ∀ q ∈ lawP ns, three3 q := by
  intro q hq
  obtain ⟨p, hp, rfl⟩ := List.mem_map.mp hq
  exact three_rot (pts1_three _ _ p hp) _
theorem lawP_len (ns : List Int) : (lawP ns).length ≤ 7 := by
  show ((pts1 (numsOf ns) (numsOf ns).length).map (rot (lawT ns))).length ≤ 7
  rw [List.length_map]
  have h1 := pts1_len (numsOf ns) (numsOf ns).length
  have h2 := nums_len ns
  omega
theorem lawL_pts (ns : List Int) : Pts 3 (lawL ns) := by
  refine ⟨by unfold lawL; rw [List.length_map]; exact lawP_len ns, fun p hp => ?_⟩
  obtain ⟨q, hq, rfl⟩ := List.mem_map.mp hp
  obtain ⟨a, b, c⟩ := lawP_three ns q hq
  refine ⟨rfl, fun x hx => ?_⟩
  have hx' : x = q.1 ∨ x = q.2.1 ∨ x = q.2.2 := by simpa [l3] using hx
  rcases hx' with rfl | rfl | rfl
  · exact a
  · exact b
  · exact c
theorem lawP_D (ns : List Int) : D.list ((lawP ns).map p3D) = ptsD (lawL ns) := by
  unfold ptsD lawL
  rw [List.map_map]; rfl
theorem toN_small {x : Int} (h : 0 ≤ x ∧ x ≤ 20) : x.toNat ≤ 20 := Int.toNat_le.mpr h.2
theorem n3_of {p : List Int} (h : p.length = 3) (h0 : ∀ x ∈ p, 0 ≤ x ∧ x ≤ 20) : ptD p = n3D (toN p) ∧ (toN p).1 ≤ 20 ∧ (toN p).2.1 ≤ 20 ∧ (toN p).2.2 ≤ 20 := by
  obtain ⟨a, b, c, rfl⟩ := len3 h
  have ha := h0 a (.head _)
  have hb := h0 b (.tail _ (.head _))
  have hc := h0 c (.tail _ (.tail _ (.head _)))
  refine ⟨?_, toN_small ha, toN_small hb, toN_small hc⟩
  show D.tup [.int a, .int b, .int c] = D.tup [.int ((a.toNat : Nat) : Int), .int ((b.toNat : Nat) : Int), .int ((c.toNat : Nat) : Int)]
  rw [Int.toNat_of_nonneg ha.1, Int.toNat_of_nonneg hb.1, Int.toNat_of_nonneg hc.1]
theorem mem_rep {cs : List (Int × Int)} {ps : List (List Int)} : ∀ n, ∀ p, p ∈ repAt cs ps n ↔ p ∈ ps.take n
  | 0, p => by unfold repAt; simp
  | n + 1, p => by
    cases h : ps[n]? with
    | none =>
      have hl := List.getElem?_eq_none_iff.mp h
      have e : repAt cs ps (n + 1) = repAt cs ps n := by unfold repAt; rw [List.take_of_length_le (by omega), List.take_of_length_le hl]
      rw [e, mem_rep n p, List.take_of_length_le hl, List.take_of_length_le (by omega)]
    | some x => rw [repAt_succ h, insR_mem, mem_rep n p, List.take_add_one, h, List.mem_append]; simp
theorem mem_lawR (ns : List Int) (p : List Int) : p ∈ lawR ns ↔ p ∈ prods (lawW ns) := by
  unfold lawR
  rw [mem_rep, List.take_length]
theorem repAt_length {cs : List (Int × Int)} {ps : List (List Int)} : ∀ n, n ≤ ps.length → (repAt cs ps n).length = n
  | 0, _ => by unfold repAt; simp
  | n + 1, h => by rw [repAt_succ (List.getElem?_eq_getElem h), insR_len, repAt_length n (Nat.le_of_succ_le h)]
theorem lawO_eq (ns : List Int) : lawO ns = lawR ns ∨ lawO ns = (lawR ns).reverse := by
  unfold lawO
  rcases way_cases ns with h | h <;> rw [h]
  · exact .inl (pick_whole _)
  · exact .inr (pick_rev _)
theorem mem_lawO (ns : List Int) (p : List Int) : p ∈ lawO ns ↔ p ∈ prods (lawW ns) := by
  rw [← mem_lawR]
  rcases lawO_eq ns with h | h <;> rw [h]
  exact List.mem_reverse
theorem lawO_len (ns : List Int) : (lawO ns).length = (prods (lawW ns)).length := by
  have : (lawR ns).length = (prods (lawW ns)).length := repAt_length _ (Nat.le_refl _)
  rw [← this]
  rcases lawO_eq ns with h | h <;> rw [h]
  exact List.length_reverse
theorem lawW_len (ns : List Int) : (lawW ns).length ≤ 729 := words_len extOkS 3 (Nat.le_refl _) _
theorem lawW_short (ns : List Int) : ∀ x ∈ lawW ns, x.length ≤ 9 := wordsS_len 3 (Nat.le_refl _) _
end Mine

namespace Mine

/-! words are exponents -/
noncomputable def inD : Nat → List (List Int) → List Nat → Bool
  | 0, _, [] => true
  | n + 1, pts, t :: e => decide (t < ((firsts pts).filter fun v => inD n (part v pts) e).length)
  | _, _, _ => false
noncomputable def strOf : List Nat → Str
  | [] => ⟨#[]⟩
  | t :: e => extS e.length t (strOf e)
theorem strOf_PS : ∀ e : List Nat, e.length ≤ 3 → PS e.length (strOf e)
  | [], _ => extOkS.nil
  | t :: e, h => extOkS.step e.length t _ h (strOf_PS e (Nat.le_of_succ_le h))
theorem strOf_inj : ∀ (e f : List Nat), e.length ≤ 3 → e.length = f.length → strOf e = strOf f → e = f
  | [], [], _, _, _ => rfl
  | t :: e, s :: f, h, hl, he => by
    have hl' : e.length = f.length := by simpa using hl
    have h3 : e.length < 3 := h
    have h1 := strOf_PS e (Nat.le_of_succ_le h)
    have h2 := strOf_PS f (by omega)
    have he' : extS e.length t (strOf e) = extS e.length s (strOf f) := by
      have : extS e.length t (strOf e) = extS f.length s (strOf f) := he
      rw [this, hl']
    have := extOkS.inj e.length t s _ _ h3 h1 (hl' ▸ h2) he'
    rw [this.1, strOf_inj e f (Nat.le_of_lt h3) hl' this.2]
  | [], _ :: _, _, hl, _ => by simp at hl
  | _ :: _, [], _, hl, _ => by simp at hl
theorem mem_wordsS : ∀ n, n ≤ 3 → ∀ pts w, w ∈ wordsS n pts ↔ ∃ e : List Nat, e.length = n ∧ w = strOf e ∧ inD n pts e = true
  | 0, _, pts, w => by
    constructor
    · intro h
      exact ⟨[], rfl, List.mem_singleton.mp h, rfl⟩
    · rintro ⟨e, he, rfl, _⟩
      rw [List.length_eq_zero_iff.mp he]
      exact List.mem_singleton.mpr rfl
  | n + 1, hn, pts, w => by
    have ih := mem_wordsS n (Nat.le_of_succ_le hn)
    have hw : ∀ v ∈ firsts pts, (wordsS n (part v pts)).Nodup := fun v _ => (wordsOk extOkS n (Nat.le_of_succ_le hn) _).nodup
    have key : ∀ (e : List Nat), e.length = n → ((firsts pts).filter fun v => decide (strOf e ∈ wordsS n (part v pts))) = (firsts pts).filter fun v => inD n (part v pts) e := by
      intro e he
      refine List.filter_congr fun v _ => ?_
      rw [Bool.eq_iff_iff, decide_eq_true_eq, ih]
      constructor
      · rintro ⟨f, hf, hs, hi⟩
        rw [strOf_inj e f (by omega) (by omega) hs]; exact hi
      · exact fun h => ⟨e, he, rfl, h⟩
    rw [mem_words hw]
    constructor
    · rintro ⟨t, k, rfl, ht⟩
      obtain ⟨v, hv⟩ := List.exists_mem_of_length_pos (show 0 < _ from Nat.lt_of_le_of_lt (Nat.zero_le t) ht)
      rw [List.mem_filter] at hv
      obtain ⟨e, he, rfl, _⟩ := (ih _ k).mp (by simpa using hv.2)
      refine ⟨t :: e, by rw [List.length_cons, he], by show _ = extS e.length t (strOf e); rw [he], ?_⟩
      have : t < ((firsts pts).filter fun v => decide (strOf e ∈ wordsS n (part v pts))).length := ht
      rw [key e he] at this
      exact decide_eq_true this
    · rintro ⟨e, he, rfl, hi⟩
      match e, he with
      | t :: e, he =>
        have he' : e.length = n := by simpa using he
        refine ⟨t, strOf e, by show extS e.length t (strOf e) = _; rw [he'], ?_⟩
        have : t < ((firsts pts).filter fun v => inD n (part v pts) e).length := of_decide_eq_true hi
        rw [← key e he'] at this
        exact this
theorem strOf_mem {n : Nat} (hn : n ≤ 3) {pts : List (List Int)} {e : List Nat} (he : e.length = n) : strOf e ∈ wordsS n pts ↔ inD n pts e = true := by
  rw [mem_wordsS n hn]
  constructor
  · rintro ⟨f, hf, hs, hi⟩
    rw [strOf_inj e f (by omega) (by omega) hs]; exact hi
  · exact fun h => ⟨e, he, rfl, h⟩

/-! a lower set -/
noncomputable def leL : List Nat → List Nat → Prop
  | [], [] => True
  | s :: f, t :: e => s ≤ t ∧ leL f e
  | _, _ => False
theorem leL.refl : ∀ e, leL e e
  | [] => trivial
  | t :: e => ⟨Nat.le_refl _, leL.refl e⟩
theorem leL.trans : ∀ {e f g : List Nat}, leL e f → leL f g → leL e g
  | [], [], [], _, _ => trivial
  | a :: e, b :: f, c :: g, h, k => ⟨Nat.le_trans h.1 k.1, leL.trans h.2 k.2⟩
  | [], [], _ :: _, _, k => k.elim
  | [], _ :: _, _, h, _ => h.elim
  | _ :: _, [], _, h, _ => h.elim
  | _ :: _, _ :: _, [], _, k => k.elim
theorem leL.len : ∀ {e f : List Nat}, leL e f → e.length = f.length
  | [], [], _ => rfl
  | a :: e, b :: f, h => by rw [List.length_cons, List.length_cons, leL.len h.2]
  | [], _ :: _, h => h.elim
  | _ :: _, [], h => h.elim
theorem filter_le {α : Type} {p q : α → Bool} (h : ∀ x, p x = true → q x = true) : ∀ l : List α, (l.filter p).length ≤ (l.filter q).length
  | [] => Nat.le_refl _
  | x :: l => by
    have ih := filter_le h l
    rw [List.filter_cons, List.filter_cons]
    by_cases hp : p x = true
    · rw [if_pos hp, if_pos (h x hp), List.length_cons, List.length_cons]; omega
    · rw [if_neg hp]
      split
      · rw [List.length_cons]; omega
      · exact ih
theorem inD_lower : ∀ n pts (e f : List Nat), leL f e → inD n pts e = true → inD n pts f = true
  | 0, pts, [], [], _, _ => rfl
  | n + 1, pts, t :: e, s :: f, h, hi => by
    have hi' : t < ((firsts pts).filter fun v => inD n (part v pts) e).length := of_decide_eq_true hi
    have := filter_le (p := fun v => inD n (part v pts) e) (q := fun v => inD n (part v pts) f) (fun v hv => inD_lower n _ e f h.2 hv) (firsts pts)
    have h1 := h.1
    exact decide_eq_true (by omega)
  | 0, _, _ :: _, _, _, hi => by simp [inD] at hi
  | _ + 1, _, [], _, _, hi => by simp [inD] at hi
  | _, _, [], _ :: _, h, _ => h.elim
  | _, _, _ :: _, [], h, _ => h.elim
theorem inD_len : ∀ n pts (e : List Nat), inD n pts e = true → e.length = n
  | 0, _, [], _ => rfl
  | n + 1, pts, t :: e, hi => by
    have hi' : t < ((firsts pts).filter fun v => inD n (part v pts) e).length := of_decide_eq_true hi
    obtain ⟨v, hv⟩ := List.exists_mem_of_length_pos (show 0 < _ from Nat.lt_of_le_of_lt (Nat.zero_le t) hi')
    rw [List.length_cons, inD_len n _ e (List.mem_filter.mp hv).2]
  | 0, _, _ :: _, hi => by simp [inD] at hi
  | _ + 1, _, [], hi => by simp [inD] at hi

/-! points -/
structure PtsN (n : Nat) (pts : List (List Int)) : Prop where
  nodup : pts.Nodup
  ne : pts ≠ []
  all : ∀ p ∈ pts, p.length = n ∧ three p
theorem mem_firsts {n : Nat} {pts : List (List Int)} (P : PtsN (n + 1) pts) {v : Int} : v ∈ firsts pts ↔ ∃ p ∈ pts, ∃ y, p = v :: y := by
  unfold firsts
  rw [mem_heads]
  constructor
  · rintro ⟨_, hm⟩
    obtain ⟨p, hp, rfl⟩ := List.mem_map.mp hm
    obtain ⟨hl, _⟩ := P.all p hp
    match p, hl with
    | a :: y, _ => exact ⟨_, hp, y, rfl⟩
  · rintro ⟨p, hp, y, rfl⟩
    exact ⟨(P.all _ hp).2 v (.head _), List.mem_map.mpr ⟨_, hp, rfl⟩⟩
theorem mem_part {n : Nat} {pts : List (List Int)} (P : PtsN (n + 1) pts) {v : Int} {y : List Int} : y ∈ part v pts ↔ v :: y ∈ pts := by
  unfold part
  rw [List.mem_map]
  constructor
  · rintro ⟨p, hp, rfl⟩
    rw [List.mem_filter] at hp
    obtain ⟨hl, _⟩ := P.all p hp.1
    match p, hl with
    | a :: z, _ =>
      have : a = v := by simpa using hp.2
      subst this
      exact hp.1
  · intro h
    exact ⟨_, List.mem_filter.mpr ⟨h, by simp⟩, rfl⟩
theorem PtsN.part {n : Nat} {pts : List (List Int)} (P : PtsN (n + 1) pts) {v : Int} (hv : v ∈ firsts pts) : PtsN n (part v pts) := by
  refine ⟨?_, ?_, ?_⟩
  · unfold Mine.part
    refine List.pairwise_map.mpr ?_
    have h1 : (pts.filter fun p => p.headD 0 == v).Pairwise (· ≠ ·) := List.Pairwise.filter _ P.nodup
    refine List.Pairwise.imp_of_mem (fun {p q} hp hq hne e => hne ?_) h1
    rw [List.mem_filter] at hp hq
    obtain ⟨hl, _⟩ := P.all p hp.1
    obtain ⟨hl', _⟩ := P.all q hq.1
    match p, hl, q, hl' with
    | a :: y, _, b :: z, _ =>
      have e1 : a = v := by simpa using hp.2
      have e2 : b = v := by simpa using hq.2
      have e3 : y = z := e
      rw [e1, e2, e3]
  · obtain ⟨p, hp, y, rfl⟩ := (mem_firsts P).mp hv
    exact List.ne_nil_of_mem ((mem_part P).mpr hp)
  · intro y hy
    have := P.all _ ((mem_part P).mp hy)
    exact ⟨by simpa using this.1, fun x hx => this.2 x (.tail _ hx)⟩
theorem part_len (v : Int) (pts : List (List Int)) : (part v pts).length = (pts.filter fun p => p.headD 0 == v).length := by unfold part; rw [List.length_map]
theorem filter3 {α : Type} (g : α → Int) : ∀ l : List α, (∀ x ∈ l, g x = -1 ∨ g x = 0 ∨ g x = 1) → (l.filter fun x => g x == -1).length + (l.filter fun x => g x == 0).length + (l.filter fun x => g x == 1).length = l.length
  | [], _ => rfl
  | x :: l, h => by
    have ih := filter3 g l fun y hy => h y (.tail _ hy)
    rw [List.filter_cons, List.filter_cons, List.filter_cons, List.length_cons]
    rcases h x (.head _) with e | e | e <;> simp [e] <;> omega
theorem heads3 {pts : List (List Int)} : firsts pts = (if (part (-1) pts).length = 0 then [] else [-1]) ++ (if (part 0 pts).length = 0 then [] else [0]) ++ (if (part 1 pts).length = 0 then [] else [1]) := by
  have h : ∀ v : Int, ((pts.map fun p => p.headD 0).any (· == v)) = !decide ((part v pts).length = 0) := by
    intro v
    rw [part_len, List.any_map, Bool.eq_iff_iff, List.any_eq_true]
    simp only [Function.comp_apply, Bool.not_eq_true', decide_eq_false_iff_not, List.length_eq_zero_iff, List.filter_eq_nil_iff]
    constructor
    · rintro ⟨p, hp, e⟩ hn
      exact hn p hp e
    · intro hn
      exact Classical.byContradiction fun hc => hn fun p hp e => hc ⟨p, hp, e⟩
  unfold firsts heads
  simp only [List.filter, h]
  by_cases h1 : (part (-1) pts).length = 0 <;> by_cases h2 : (part 0 pts).length = 0 <;> by_cases h3 : (part 1 pts).length = 0 <;> simp [h1, h2, h3]
theorem sum_parts {n : Nat} {pts : List (List Int)} (P : PtsN (n + 1) pts) : ((firsts pts).map fun v => (part v pts).length).sum = pts.length := by
  have h := filter3 (fun p : List Int => p.headD 0) pts fun p hp => by
    obtain ⟨hl, h3⟩ := P.all p hp
    match p, hl with
    | a :: y, _ => exact h3 a (.head _)
  rw [← part_len, ← part_len, ← part_len] at h
  rw [heads3]
  by_cases h1 : (part (-1) pts).length = 0 <;> by_cases h2 : (part 0 pts).length = 0 <;> by_cases h3 : (part 1 pts).length = 0 <;> simp [h1, h2, h3] at h ⊢ <;> omega
theorem zero_in : ∀ n pts, PtsN n pts → inD n pts (List.replicate n 0) = true
  | 0, _, _ => rfl
  | n + 1, pts, P => by
    obtain ⟨p, hp⟩ := List.exists_mem_of_ne_nil _ P.ne
    obtain ⟨hl, _⟩ := P.all p hp
    match p, hl with
    | a :: y, _ =>
      have hv : a ∈ firsts pts := (mem_firsts P).mpr ⟨_, hp, y, rfl⟩
      have : a ∈ (firsts pts).filter fun v => inD n (part v pts) (List.replicate n 0) := List.mem_filter.mpr ⟨hv, zero_in n _ (P.part hv)⟩
      exact decide_eq_true (List.length_pos_of_mem this)
end Mine

namespace Mine

/-! sums of tables -/
section
variable {K : Type} [DecidableEq K]
noncomputable def tsum (t : List (K × Int)) : Int := (t.map (·.2)).sum
theorem fold_sum (t : List (K × Int)) : ∀ a : Int, t.foldl (fun a p => a + p.2) a = a + tsum t := by
  induction t with
  | nil => intro a; simp [tsum]
  | cons p t ih =>
    intro a
    rw [List.foldl_cons, ih]
    unfold tsum
    rw [List.map_cons, List.sum_cons]; omega
theorem psum_all (t : List (K × Int)) : psum t t.length = tsum t := by
  unfold psum
  rw [List.take_length, fold_sum]; omega
theorem tsum_put (k : K) (i : Int) : ∀ t : List (K × Int), (keysT t).Nodup → tsum (put t k i) = tsum t - cnt t k + i := by
  intro t hn
  unfold put
  by_cases h : k ∈ keysT t
  · rw [if_pos (any_iff.mpr h)]
    induction t with
    | nil => simp [keysT] at h
    | cons p t ih =>
      have hn' := List.nodup_cons.mp (show (p.1 :: keysT t).Nodup from hn)
      have e1 : tsum (p :: t) = p.2 + tsum t := by unfold tsum; rw [List.map_cons, List.sum_cons]
      rw [List.map_cons, cnt_cons, e1]
      by_cases hp : p.1 = k
      · rw [if_pos hp, if_pos hp]
        have : (t.map fun p => if p.1 = k then (p.1, i) else p) = t := by
          have hh : ∀ q ∈ t, (if q.1 = k then (q.1, i) else q) = q := fun q hq => if_neg fun (e : q.1 = k) => hn'.1 (by rw [hp, ← e]; exact List.mem_map_of_mem (f := (·.1)) hq)
          rw [List.map_congr_left hh, List.map_id']
        rw [this]
        unfold tsum
        rw [List.map_cons, List.sum_cons]; omega
      · rw [if_neg hp, if_neg hp]
        have ht : k ∈ keysT t := by
          have : k ∈ p.1 :: keysT t := h
          exact (List.mem_cons.mp this).resolve_left fun e => hp e.symm
        have := ih hn'.2 ht
        unfold tsum at this ⊢
        rw [List.map_cons, List.sum_cons, this]; omega
  · rw [if_neg (fun e => h (any_iff.mp e)), cnt_not h]
    unfold tsum
    rw [List.map_append, List.sum_append]; simp
theorem tsum_bump (p : K × Int) (t : List (K × Int)) (hn : (keysT t).Nodup) : tsum (bump t p) = tsum t + p.2 := by
  have hc : cnt t p.1 = ((t.find? fun q => q.1 = p.1).map (·.2)).getD 0 := rfl
  unfold bump
  split
  · rename_i q hq
    rw [hq] at hc
    rw [tsum_put _ _ _ hn, hc]
    simp
    omega
  · rename_i hq
    rw [hq] at hc
    rw [tsum_put _ _ _ hn, hc]; simp
theorem tsum_fold : ∀ (s t : List (K × Int)), (keysT t).Nodup → tsum (s.foldl bump t) = tsum t + tsum s
  | [], t, _ => by simp [tsum]
  | p :: s, t, hn => by
    rw [List.foldl_cons, tsum_fold s _ (nodup_bump hn), tsum_bump p t hn]
    unfold tsum
    rw [List.map_cons, List.sum_cons]; omega
theorem tsum_addC {t s : List (K × Int)} (hn : (keysT t).Nodup) : tsum (addC t s) = tsum t + tsum s := by rw [addC_fold hn, tsum_fold _ _ hn]
theorem tsum_ones {ws : List K} (h : ws.Nodup) : tsum (ones ws) = (ws.length : Int) := by
  rw [ones_eq h]
  unfold tsum
  rw [List.map_map]
  induction ws with
  | nil => rfl
  | cons w ws ih =>
    rw [List.map_cons, List.sum_cons, ih (List.nodup_cons.mp h).2, List.length_cons]
    show (1 : Int) + _ = _
    omega
theorem tsum_tab {wf : List (List Int) → List K} {pts : List (List Int)} (hw : ∀ v ∈ firsts pts, (wf (part v pts)).Nodup) : ∀ i, i ≤ (firsts pts).length → tsum (tabAt wf pts i) = ((((firsts pts).take i).map fun v => (wf (part v pts)).length).sum : Nat)
  | 0, _ => by simp [tabAt, tsum]
  | i + 1, hi => by
    have hv : (firsts pts)[i]? = some (firsts pts)[i] := List.getElem?_eq_getElem hi
    have T := tabOk hw i (Nat.le_of_succ_le hi)
    have hnd := hw _ (List.getElem_mem hi)
    rw [tabAt_succ hv, tsum_addC T.nodup, tsum_tab hw i (Nat.le_of_succ_le hi), tsum_ones hnd, List.take_add_one, hv, List.map_append, List.sum_append]
    simp
theorem toNat_sum : ∀ l : List (K × Int), (∀ p ∈ l, 0 ≤ p.2) → (((l.map fun p => p.2.toNat).sum : Nat) : Int) = tsum l
  | [], _ => rfl
  | p :: l, h => by
    have ih := toNat_sum l fun q hq => h q (.tail _ hq)
    have h0 := h p (.head _)
    unfold tsum at ih ⊢
    rw [List.map_cons, List.map_cons, List.sum_cons, List.sum_cons]
    omega
end
theorem wordsS_size : ∀ n, n ≤ 3 → ∀ pts, PtsN n pts → (wordsS n pts).length = pts.length
  | 0, _, pts, P => by
    have h1 : ∀ p ∈ pts, p = [] := fun p hp => List.length_eq_zero_iff.mp (P.all p hp).1
    have hne := P.ne
    match pts, P.nodup, h1, hne with
    | [p], _, _, _ => rfl
    | p :: q :: r, hn, h1, _ =>
      have a := h1 p (.head _)
      have b := h1 q (.tail _ (.head _))
      have := (List.nodup_cons.mp hn).1
      exact absurd (by rw [a, b]; exact .head _) this
  | n + 1, hn, pts, P => by
    have ih := wordsS_size n (Nat.le_of_succ_le hn)
    have hw : ∀ v, (wordsS n (part v pts)).Nodup := fun v => (wordsOk extOkS n (Nat.le_of_succ_le hn) _).nodup
    have h1 := tsum_tab (wf := wordsS n) (pts := pts) (fun v _ => hw v) _ (Nat.le_refl _)
    have h2 := tab_small (wf := wordsS n) (pts := pts) hw (Nat.le_refl (firsts pts).length)
    have h3 := toNat_sum (tabAt (wordsS n) pts (firsts pts).length) fun p hp => by have := h2 p hp; omega
    have h4 : ((firsts pts).map fun v => (wordsS n (part v pts)).length) = (firsts pts).map fun v => (part v pts).length := List.map_congr_left fun v hv => ih _ (P.part hv)
    show ((tab (wordsS n) pts).flatMap (fun p => (List.range p.2.toNat).map fun t => extS n t p.1)).length = _
    rw [List.length_flatMap]
    have h5 : ((tab (wordsS n) pts).map fun p : Str × Int => ((List.range p.2.toNat).map fun t => extS n t p.1).length) = (tab (wordsS n) pts).map fun p => p.2.toNat := List.map_congr_left fun p _ => by rw [List.length_map, List.length_range]
    rw [h5]
    rw [List.take_length, h4, sum_parts P] at h1
    have h6 : (((tab (wordsS n) pts).map fun p => p.2.toNat).sum : Nat) = pts.length := by
      have : ((((tab (wordsS n) pts).map fun p => p.2.toNat).sum : Nat) : Int) = tsum (tab (wordsS n) pts) := h3
      have e : tsum (tab (wordsS n) pts) = (pts.length : Int) := h1
      omega
    exact h6

/-! the law's points -/
theorem addP_nodup {acc : List P3} {p : P3} (h : acc.Nodup) : (addP acc p).Nodup := by
  unfold addP
  split
  · exact h
  · rename_i hc
    exact List.nodup_append.mpr ⟨h, by simp, fun a ha b hb e => hc (by rw [List.mem_singleton] at hb; rw [← hb, ← e]; simpa using ha)⟩
theorem pts1_nodup (ms : List Int) (k : Nat) : (pts1 ms k).Nodup := by
  unfold pts1
  suffices ∀ (l : List Int) (acc : List P3), acc.Nodup → (l.foldl (fun acc n => addP acc (ptOf n)) acc).Nodup from this _ _ (by simp)
  intro l
  induction l with
  | nil => intro acc h; exact h
  | cons x l ih => intro acc h; exact ih _ (addP_nodup h)
theorem addP_sub {acc : List P3} {p q : P3} (h : q ∈ acc) : q ∈ addP acc p := by
  unfold addP
  split
  · exact h
  · exact List.mem_append_left _ h
theorem pts1_ne (ms : List Int) (h : ms ≠ []) : pts1 ms ms.length ≠ [] := by
  unfold pts1
  rw [List.take_length]
  match ms, h with
  | x :: l, _ =>
    have h0 : ptOf x ∈ addP [] (ptOf x) := by simp [addP]
    suffices ∀ (l : List Int) (acc : List P3), ptOf x ∈ acc → ptOf x ∈ l.foldl (fun acc n => addP acc (ptOf n)) acc from List.ne_nil_of_mem (this l _ h0)
    intro l
    induction l with
    | nil => intro acc h; exact h
    | cons y l ih => intro acc h; exact ih _ (addP_sub h)
theorem rot_inj {t : Nat} {p q : P3} (h : rot t p = rot t q) : p = q := by
  obtain ⟨a, b, c⟩ := p
  obtain ⟨d, e, f⟩ := q
  match t with
  | 0 => exact h
  | 1 => have h' : (b, c, a) = (e, f, d) := h; injection h' with h1 h2; injection h2 with h2 h3; rw [h1, h2, h3]
  | _ + 2 => have h' : (c, a, b) = (f, d, e) := h; injection h' with h1 h2; injection h2 with h2 h3; rw [h1, h2, h3]
theorem l3_injective {p q : P3} (h : l3 p = l3 q) : p = q := by
  obtain ⟨a, b, c⟩ := p
  obtain ⟨d, e, f⟩ := q
  have h' : [a, b, c] = [d, e, f] := h
  simp only [List.cons.injEq, and_true] at h'
  rw [h'.1, h'.2.1, h'.2.2]
theorem nodup_map {α β : Type} {f : α → β} {l : List α} (h : l.Nodup) (hf : ∀ a b, f a = f b → a = b) : (l.map f).Nodup := by
  exact List.pairwise_map.mpr (List.Pairwise.imp (fun hne e => hne (hf _ _ e)) h)
theorem lawP_nodup (ns : List Int) : (lawP ns).Nodup := nodup_map (pts1_nodup _ _) fun _ _ h => rot_inj h
theorem lawL_ok (ns : List Int) : PtsN 3 (lawL ns) := by
  refine ⟨nodup_map (lawP_nodup ns) fun _ _ h => l3_injective h, ?_, (lawL_pts ns).all⟩
  have hn : numsOf ns ≠ [] := by
    intro e
    have := congrArg List.length e
    unfold numsOf at this
    rw [List.length_append, List.length_map, List.length_range] at this
    simp at this
  have := pts1_ne _ hn
  intro e
  apply this
  have e' : ((pts1 (numsOf ns) (numsOf ns).length).map (rot (lawT ns))).map l3 = [] := e
  simpa using e'

/-! what count_calls tells -/
theorem calls_eq (ns : List Int) : lawCalls ns = (List.range ((firsts (lawL ns)).length + 1)).map fun i => (((((firsts (lawL ns)).take i).map fun v => (part v (lawL ns)).length).sum : Nat) : Int) := by
  unfold lawCalls
  refine List.map_congr_left fun i hi => ?_
  rw [List.mem_range] at hi
  rw [psum_all, tsum_tab (fun v _ => (wordsOk extOkS 2 (by decide) _).nodup) i (by omega)]
  have : (((firsts (lawL ns)).take i).map fun v => (wordsS 2 (part v (lawL ns))).length) = ((firsts (lawL ns)).take i).map fun v => (part v (lawL ns)).length :=
    List.map_congr_left fun v hv => wordsS_size 2 (by decide) _ ((lawL_ok ns).part (List.mem_of_mem_take hv))
  rw [this]
theorem law_twice (ns : List Int) : psum (addC (lawTab ns) (lawTab ns)) (addC (lawTab ns) (lawTab ns)).length = 2 * ((lawL ns).length : Int) := by
  have T := tabOk (wf := wordsS 2) (pts := lawL ns) (fun v _ => (wordsOk extOkS 2 (by decide) _).nodup) _ (Nat.le_refl (firsts (lawL ns)).length)
  have h1 : tsum (lawTab ns) = ((lawL ns).length : Int) := by
    have := tsum_tab (wf := wordsS 2) (pts := lawL ns) (fun v _ => (wordsOk extOkS 2 (by decide) _).nodup) _ (Nat.le_refl _)
    rw [List.take_length] at this
    have e : ((firsts (lawL ns)).map fun v => (wordsS 2 (part v (lawL ns))).length) = (firsts (lawL ns)).map fun v => (part v (lawL ns)).length :=
      List.map_congr_left fun v hv => wordsS_size 2 (by decide) _ ((lawL_ok ns).part hv)
    rw [e, sum_parts (lawL_ok ns)] at this
    exact this
  rw [psum_all, tsum_addC (show (keysT (lawTab ns)).Nodup from T.nodup), h1]; omega

/-! the first places of the heads -/
noncomputable def posOf (hs : List Int) : List Int := (firstAt hs).map fun p => (p.2 : Int)
theorem pos_add (hs : List Int) (v : Int) (m : Nat) (hv : v ∉ hs) : posOf (hs ++ List.replicate m v) = posOf hs ++ if m = 0 then [] else [(hs.length : Int)] := by
  cases m with
  | zero => simp
  | succ m =>
    unfold posOf firstAt
    rw [List.zipIdx_append, List.filter_append, List.map_append]
    congr 1
    · congr 1
      refine List.filter_congr fun p hp => ?_
      have hlt := (List.mem_zipIdx' hp).1
      rw [List.take_append_of_le_length (by omega)]
    · rw [if_neg (by omega), List.replicate_succ, List.zipIdx_cons, List.filter_cons]
      have h1 : (!((hs ++ v :: List.replicate m v).take hs.length).any (· == v)) = true := by
        rw [List.take_append_of_le_length (Nat.le_refl _), List.take_length, Bool.not_eq_true', List.any_eq_false]
        intro x hx e
        have : x = v := by simpa using e
        exact hv (this ▸ hx)
      rw [Nat.zero_add, if_pos h1, List.map_cons]
      have h2 : (((List.replicate m v).zipIdx (hs.length + 1)).filter fun p => !((hs ++ v :: List.replicate m v).take p.2).any (· == p.1)) = [] := by
        rw [List.filter_eq_nil_iff]
        intro p hp
        have hm := List.mem_zipIdx hp
        have hpv : p.1 = v := by
          have := hm.2.2
          rw [this]
          exact List.getElem_replicate _
        have : ((hs ++ v :: List.replicate m v).take p.2).any (· == p.1) = true := by
          rw [List.any_eq_true]
          refine ⟨v, ?_, by rw [hpv]; simp⟩
          rw [List.take_append]
          refine List.mem_append_right _ ?_
          obtain ⟨d, hd⟩ : ∃ d, p.2 - hs.length = d + 1 := ⟨p.2 - hs.length - 1, by have := hm.1; omega⟩
          rw [hd, List.take_succ_cons]
          exact .head _
        rw [this]; simp
      rw [h2]; rfl
theorem hs_eq (ns : List Int) : lawHs ns = List.replicate (part (-1) (lawL ns)).length (-1) ++ List.replicate (part 0 (lawL ns)).length 0 ++ List.replicate (part 1 (lawL ns)).length 1 := by
  unfold lawHs
  symm
  refine sortI_eq ?_ ?_
  · rw [List.perm_iff_count]
    intro v
    have hall : ∀ x ∈ (lawL ns).map (fun p => p.headD 0), x = -1 ∨ x = 0 ∨ x = 1 := by
      intro x hx
      obtain ⟨p, hp, rfl⟩ := List.mem_map.mp hx
      obtain ⟨hl, h3⟩ := (lawL_ok ns).all p hp
      match p, hl with
      | a :: y, _ => exact h3 a (.head _)
    have hc : ∀ v : Int, ((lawL ns).map fun p => p.headD 0).count v = (part v (lawL ns)).length := by
      intro v
      rw [part_len, List.count_eq_countP, List.countP_map, List.countP_eq_length_filter]
      rfl
    rw [hc, List.count_append, List.count_append, List.count_replicate, List.count_replicate, List.count_replicate]
    by_cases h1 : v = -1
    · subst h1; simp
    · by_cases h2 : v = 0
      · subst h2; simp
      · by_cases h3 : v = 1
        · subst h3; simp
        · have : (part v (lawL ns)).length = 0 := by
            rw [← hc v]
            refine List.count_eq_zero.mpr fun hm => ?_
            rcases hall v hm with h | h | h
            · exact h1 h
            · exact h2 h
            · exact h3 h
          rw [this]
          have e1 : ((-1 : Int) == v) = false := by simpa using fun h => h1 h.symm
          have e2 : ((0 : Int) == v) = false := by simpa using fun h => h2 h.symm
          have e3 : ((1 : Int) == v) = false := by simpa using fun h => h3 h.symm
          simp [e1, e2, e3]
  · rw [List.pairwise_append, List.pairwise_append]
    refine ⟨⟨?_, ?_, ?_⟩, ?_, ?_⟩
    · exact List.pairwise_replicate.mpr (.inr (Int.le_refl _))
    · exact List.pairwise_replicate.mpr (.inr (Int.le_refl _))
    · intro a ha b hb
      rw [List.eq_of_mem_replicate ha, List.eq_of_mem_replicate hb]; decide
    · exact List.pairwise_replicate.mpr (.inr (Int.le_refl _))
    · intro a ha b hb
      rw [List.eq_of_mem_replicate hb]
      rcases List.mem_append.mp ha with ha | ha <;> rw [List.eq_of_mem_replicate ha] <;> decide
theorem law_counts (ns : List Int) : lawCalls ns = lawCounts ns := by
  have hL : lawCounts ns = posOf (lawHs ns) ++ [((lawHs ns).length : Int)] := rfl
  rw [calls_eq, hL, hs_eq]
  generalize hA : (part (-1) (lawL ns)).length = A
  generalize hB : (part 0 (lawL ns)).length = B
  generalize hC : (part 1 (lawL ns)).length = C
  have n1 : (1 : Int) ∉ List.replicate A (-1) ++ List.replicate B 0 := by
    intro h
    rcases List.mem_append.mp h with h | h <;> exact absurd (List.eq_of_mem_replicate h) (by decide)
  have n2 : (0 : Int) ∉ List.replicate A (-1) := fun h => absurd (List.eq_of_mem_replicate h) (by decide)
  have e0 : List.replicate A (-1 : Int) = [] ++ List.replicate A (-1) := rfl
  rw [pos_add _ _ _ n1, pos_add _ _ _ n2, e0, pos_add [] _ _ (by simp)]
  rw [heads3, hA, hB, hC]
  by_cases a : A = 0 <;> by_cases b : B = 0 <;> by_cases c : C = 0 <;> simp [a, b, c, List.range_succ, posOf, firstAt, hA, hB, hC]
  all_goals omega
end Mine

namespace Mine

/-! monomials: the last place counts most -/
noncomputable def ltL : List Nat → List Nat → Prop
  | s :: f, t :: e => ltL f e ∨ (f = e ∧ s < t)
  | _, _ => False
theorem ltL.trans : ∀ {e f g : List Nat}, ltL e f → ltL f g → ltL e g
  | a :: e, b :: f, c :: g, h, k => by
    rcases h with h | ⟨h, h'⟩
    · rcases k with k | ⟨k, _⟩
      · exact .inl (ltL.trans h k)
      · exact .inl (k ▸ h)
    · rcases k with k | ⟨k, k'⟩
      · exact .inl (h ▸ k)
      · exact .inr ⟨h.trans k, Nat.lt_trans h' k'⟩
  | [], _, _, h, _ => h.elim
  | _ :: _, [], _, h, _ => h.elim
  | _ :: _, _ :: _, [], _, k => k.elim
noncomputable def monL : List Nat → List Int → Int
  | [], _ => 1
  | t :: e, v :: y => v ^ t * monL e y
  | _ :: _, [] => 0
/-- combinations of monomials ahead of e -/
inductive Lo (e : List Nat) : (List Int → Int) → Prop
  | zero : Lo e fun _ => 0
  | mon {f : List Nat} : ltL f e → Lo e (monL f)
  | lin {P Q : List Int → Int} (a b : Int) : Lo e P → Lo e Q → Lo e fun x => a * P x + b * Q x
theorem Lo.mono {e e' : List Nat} (h : ltL e e') {P : List Int → Int} (x : Lo e P) : Lo e' P := by
  induction x with
  | zero => exact .zero
  | mon hf => exact .mon (hf.trans h)
  | lin a b _ _ ih1 ih2 => exact .lin a b ih1 ih2
/-- a polynomial of one place, below degree t -/
noncomputable def pv : Nat → (Nat → Int) → Int → Int
  | 0, _, _ => 0
  | t + 1, A, v => pv t A v + A t * v ^ t
theorem pv_zero : ∀ t v, pv t (fun _ => 0) v = 0
  | 0, _ => rfl
  | t + 1, v => by show pv t _ v + 0 * v ^ t = 0; rw [pv_zero t v]; simp
theorem pv_lin (A B : Nat → Int) (a b v : Int) : ∀ t, pv t (fun s => a * A s + b * B s) v = a * pv t A v + b * pv t B v
  | 0 => by simp [pv]
  | t + 1 => by
    show pv t _ v + (a * A t + b * B t) * v ^ t = a * (pv t A v + A t * v ^ t) + b * (pv t B v + B t * v ^ t)
    rw [pv_lin A B a b v t, Int.add_mul, Int.mul_add, Int.mul_add, Int.mul_assoc, Int.mul_assoc]; omega
theorem pv_ge {s : Nat} (v : Int) : ∀ t, t ≤ s → pv t (fun u => if u = s then 1 else 0) v = 0
  | 0, _ => rfl
  | t + 1, h => by
    show pv t _ v + (if t = s then 1 else 0) * v ^ t = 0
    rw [pv_ge v t (by omega), if_neg (by omega)]; simp
theorem pv_one {s : Nat} (v : Int) : ∀ t, s < t → pv t (fun u => if u = s then 1 else 0) v = v ^ s
  | t + 1, h => by
    show pv t _ v + (if t = s then 1 else 0) * v ^ t = v ^ s
    by_cases e : t = s
    · subst e
      rw [pv_ge v t (Nat.le_refl _), if_pos rfl]; simp
    · rw [pv_one v t (by omega), if_neg e]; simp
theorem Lo.group {t : Nat} {w : List Nat} {P : List Int → Int} (h : Lo (t :: w) P) : ∃ A : Nat → Int, ∀ v, ∃ Q, Lo w Q ∧ ∀ y, P (v :: y) = pv t A v * monL w y + Q y := by
  induction h with
  | zero => exact ⟨fun _ => 0, fun v => ⟨_, .zero, fun y => by rw [pv_zero]; simp⟩⟩
  | @mon f hf =>
    match f, hf with
    | s :: f, hf =>
      rcases hf with hf | ⟨rfl, hs⟩
      · refine ⟨fun _ => 0, fun v => ⟨_, .lin (v ^ s) 0 (.mon hf) .zero, fun y => ?_⟩⟩
        rw [pv_zero]
        show v ^ s * monL f y = 0 * _ + (v ^ s * monL f y + 0 * 0)
        simp
      · refine ⟨fun u => if u = s then 1 else 0, fun v => ⟨_, .zero, fun y => ?_⟩⟩
        rw [pv_one v t hs]
        show v ^ s * monL f y = v ^ s * monL f y + 0
        simp
  | lin a b _ _ ih1 ih2 =>
    obtain ⟨A, hA⟩ := ih1
    obtain ⟨B, hB⟩ := ih2
    refine ⟨fun s => a * A s + b * B s, fun v => ?_⟩
    obtain ⟨Q, hQ, eQ⟩ := hA v
    obtain ⟨R, hR, eR⟩ := hB v
    refine ⟨_, .lin a b hQ hR, fun y => ?_⟩
    rw [pv_lin]
    dsimp only
    rw [eQ y, eR y, Int.mul_add, Int.mul_add, Int.add_mul, Int.mul_assoc, Int.mul_assoc]; omega

/-- a polynomial of degree at most 2 with too many noughts -/
theorem roots {F : List Int} (hn : F.Nodup) (h3 : ∀ v ∈ F, v = -1 ∨ v = 0 ∨ v = 1) {t : Nat} (ht : t < F.length) {c : Int} {A : Nat → Int} (h : ∀ v ∈ F, c * v ^ t + pv t A v = 0) : c = 0 := by
  have hsub : F ⊆ [-1, 0, 1] := fun v hv => by simpa using h3 v hv
  have hlen := List.Nodup.length_le_of_subset hn hsub
  have hlen' : F.length ≤ 3 := hlen
  match t, ht, h with
  | 0, ht, h =>
    obtain ⟨v, hv⟩ := List.exists_mem_of_length_pos ht
    have := h v hv
    simpa [pv] using this
  | 1, ht, h =>
    match F, hn, ht, h with
    | a :: b :: r, hn, _, h =>
      have hab : a ≠ b := fun e => (List.nodup_cons.mp hn).1 (e ▸ .head _)
      have e1 : c * a + A 0 = 0 := by simpa [pv, Int.pow_succ] using h a (.head _)
      have e2 : c * b + A 0 = 0 := by simpa [pv, Int.pow_succ] using h b (.tail _ (.head _))
      have e3 : c * (a - b) = 0 := by
        rw [Int.mul_sub, Int.sub_eq_zero]
        exact (Int.add_left_inj _).mp (e1.trans e2.symm)
      exact (Int.mul_eq_zero.mp e3).resolve_right fun h => hab (Int.sub_eq_zero.mp h)
  | 2, ht, h =>
    have hall : ∀ v, v = -1 ∨ v = 0 ∨ v = 1 → v ∈ F := by
      intro v hv
      refine Classical.byContradiction fun hc => ?_
      have hs2 : F ⊆ [-1, 0, 1].erase v := by
        intro u hu
        have hne : u ≠ v := fun e => hc (e ▸ hu)
        rw [List.mem_erase_of_ne hne]
        exact hsub hu
      have := List.Nodup.length_le_of_subset hn hs2
      rw [List.length_erase_of_mem (by simpa using hv)] at this
      simp at this
      omega
    have h1 := h (-1) (hall _ (.inl rfl))
    have h2 := h 0 (hall _ (.inr (.inl rfl)))
    have h4 := h 1 (hall _ (.inr (.inr rfl)))
    have e1 : c * 1 + (A 0 + A 1 * (-1)) = 0 := by simpa [pv, Int.pow_succ] using h1
    have e2 : A 0 = 0 := by simpa [pv] using h2
    have e4 : c + (A 0 + A 1) = 0 := by simpa [pv] using h4
    omega
  | t + 3, ht, _ => omega

/-- no word of D is led by what stands ahead -/
theorem noLead : ∀ n pts (e : List Nat), PtsN n pts → inD n pts e = true → ∀ (c : Int) (P : List Int → Int), Lo e P → (∀ x ∈ pts, c * monL e x + P x = 0) → c = 0
  | 0, pts, e, hp, hi, c, P, hP, h => by
    rw [List.length_eq_zero_iff.mp (inD_len 0 pts e hi)] at hP h
    obtain ⟨x, hx⟩ := List.exists_mem_of_ne_nil _ hp.ne
    have h0 : ∀ x, P x = 0 := by
      clear h
      induction hP with
      | zero => intro x; rfl
      | mon hf => rename_i f; cases f <;> exact hf.elim
      | lin a b _ _ ih1 ih2 => intro x; dsimp only; rw [ih1 x, ih2 x]; simp
    have := h x hx
    rw [h0 x] at this
    simpa [monL] using this
  | n + 1, pts, e, hp, hi, c, P, hP, h => by
    match e, hi, hP, h with
    | t :: w, hi, hP, h =>
      have ht : t < ((firsts pts).filter fun v => inD n (part v pts) w).length := of_decide_eq_true hi
      obtain ⟨A, hA⟩ := hP.group
      refine roots (F := (firsts pts).filter fun v => inD n (part v pts) w) (List.Pairwise.filter _ (nodup_heads _)) (fun v hv => (mem_heads.mp (List.mem_filter.mp hv).1).1) ht (A := A) fun v hv => ?_
      rw [List.mem_filter] at hv
      obtain ⟨Q, hQ, eQ⟩ := hA v
      refine noLead n (part v pts) w (hp.part hv.1) hv.2 _ Q hQ fun y hy => ?_
      have := h (v :: y) ((mem_part hp).mp hy)
      rw [eQ y] at this
      have e : monL (t :: w) (v :: y) = v ^ t * monL w y := rfl
      rw [e, ← Int.mul_assoc] at this
      rw [Int.add_mul]; omega
end Mine

namespace Mine

noncomputable def el (t : N3) : List Nat := [t.1, t.2.1, t.2.2]
theorem mon_el (t : N3) (q : P3) : mon t q = monL (el t) (l3 q) := by
  unfold mon el l3
  show _ = q.1 ^ t.1 * (q.2.1 ^ t.2.1 * (q.2.2 ^ t.2.2 * 1))
  rw [Int.mul_one, Int.mul_assoc]
theorem reduce_form {pts : List P3} {e : List Nat} : ∀ (ps : List Piv) (vals : List Int) (c : Int) (P : List Int → Int), (∀ p ∈ ps, p.2.getD p.1 0 ≠ 0) → (∀ p ∈ ps, ∃ Q, Lo e Q ∧ p.2 = pts.map fun q => Q (l3 q)) → c ≠ 0 → Lo e P → vals = (pts.map fun q => c * monL e (l3 q) + P (l3 q)) →
    ∃ (c' : Int) (P' : List Int → Int), c' ≠ 0 ∧ Lo e P' ∧ reduce ps vals = pts.map fun q => c' * monL e (l3 q) + P' (l3 q)
  | [], vals, c, P, _, _, hc, hP, hv => ⟨c, P, hc, hP, hv⟩
  | p :: ps, vals, c, P, hz, hQ, hc, hP, hv => by
    obtain ⟨Q, hQ1, hQ2⟩ := hQ p (.head _)
    have hd := hz p (.head _)
    refine reduce_form ps (red1 vals p) (p.2.getD p.1 0 * c) (fun x => p.2.getD p.1 0 * P x + (-(vals.getD p.1 0)) * Q x) (fun q hq => hz q (.tail _ hq)) (fun q hq => hQ q (.tail _ hq)) (Int.mul_ne_zero hd hc) (.lin _ _ hP hQ1) ?_
    unfold red1
    generalize hd' : p.2.getD p.1 0 = d
    generalize hk' : vals.getD p.1 0 = k
    rw [hv, hQ2, List.zip_map', List.map_map]
    refine List.map_congr_left fun q _ => ?_
    show d * (c * monL e (l3 q) + P (l3 q)) - k * Q (l3 q) = d * c * monL e (l3 q) + (d * P (l3 q) + -k * Q (l3 q))
    rw [Int.mul_add, Int.mul_assoc, Int.neg_mul]; omega
theorem elim_inv {ns : List Int} : ∀ (rest : List N3) (st : List Piv × List Bool), (rest.map el).Pairwise ltL → PivOk (lawP ns).length st.1 → (∀ p ∈ st.1, ∃ Q : List Int → Int, (p.2 = (lawP ns).map fun q => Q (l3 q)) ∧ ∀ t ∈ rest, Lo (el t) Q) →
    PivOk (lawP ns).length (((rest.map (valsOf (lawP ns))).foldl stepE st)).1 ∧ ∃ flags : List Bool, ((rest.map (valsOf (lawP ns))).foldl stepE st).2 = st.2 ++ flags ∧ flags.length = rest.length ∧ ((rest.map (valsOf (lawP ns))).foldl stepE st).1.length = st.1.length + (flags.filter fun b => !b).length ∧
      ∀ (i : Nat) (t : N3), rest[i]? = some t → inD 3 (lawL ns) (el t) = true → flags[i]? = some false
  | [], st, _, hp, _ => ⟨hp, [], by simp, rfl, by simp, fun i t h => by simp at h⟩
  | t :: rest, st, hasc, hp, hQ => by
    rw [List.map_cons] at hasc
    have hasc' := List.pairwise_cons.mp hasc
    obtain ⟨c, P, hc, hP, hr⟩ := reduce_form (e := el t) st.1 (valsOf (lawP ns) t) 1 (fun _ => 0) hp.nz (fun p hpm => by
      obtain ⟨Q, h1, h2⟩ := hQ p hpm
      exact ⟨Q, h2 t (.head _), h1⟩) (by decide) .zero (List.map_congr_left fun q _ => by rw [mon_el]; simp)
    have hvl : (valsOf (lawP ns) t).length = (lawP ns).length := by unfold valsOf; rw [List.length_map]
    have hlow : ∀ t' ∈ rest, Lo (el t') fun x => c * monL (el t) x + 1 * P x := fun t' ht' => .lin _ _ (.mon (hasc'.1 _ (List.mem_map_of_mem ht'))) (hP.mono (hasc'.1 _ (List.mem_map_of_mem ht')))
    have hin : inD 3 (lawL ns) (el t) = true → spotsOf (reduce st.1 (valsOf (lawP ns) t)) ≠ [] := by
      intro hi hs
      rw [spots_nil] at hs
      refine hc (noLead 3 (lawL ns) (el t) (lawL_ok ns) hi c P hP fun x hx => ?_)
      obtain ⟨q, hq, rfl⟩ := List.mem_map.mp hx
      obtain ⟨i, hi, e⟩ := List.mem_iff_getElem.mp hq
      have := hs i
      rw [hr, List.getD_eq_getElem?_getD, List.getElem?_map, List.getElem?_eq_getElem hi, e] at this
      exact this
    rw [List.map_cons, List.foldl_cons]
    cases hsp : spotsOf (reduce st.1 (valsOf (lawP ns) t)) with
    | nil =>
      have hst : stepE st (valsOf (lawP ns) t) = (st.1, st.2 ++ [true]) := by
        unfold stepE
        dsimp only
        rw [hsp]; rfl
      rw [hst]
      obtain ⟨h1, flags, h2, h3, h4, h5⟩ := elim_inv rest (st.1, st.2 ++ [true]) hasc'.2 hp (fun p hpm => by
        obtain ⟨Q, a, b⟩ := hQ p hpm
        exact ⟨Q, a, fun t' ht' => b t' (.tail _ ht')⟩)
      refine ⟨h1, true :: flags, by rw [h2, List.append_assoc]; rfl, by rw [List.length_cons, List.length_cons, h3], ?_, fun i t' ht' hi => ?_⟩
      · rw [h4, List.filter_cons]; rfl
      · cases i with
        | zero =>
          simp only [List.getElem?_cons_zero, Option.some.injEq] at ht'
          subst ht'
          exact absurd hsp (hin hi)
        | succ i => exact h5 i t' ht' hi
    | cons s r =>
      have hst : stepE st (valsOf (lawP ns) t) = (st.1 ++ [(s, reduce st.1 (valsOf (lawP ns) t))], st.2 ++ [false]) := by
        unfold stepE
        dsimp only
        rw [hsp]; rfl
      rw [hst]
      obtain ⟨h1, flags, h2, h3, h4, h5⟩ := elim_inv rest (st.1 ++ [(s, reduce st.1 (valsOf (lawP ns) t))], st.2 ++ [false]) hasc'.2 (pivOk_add hp hvl hsp) (fun p hpm => by
        rcases List.mem_append.mp hpm with hpm | hpm
        · obtain ⟨Q, a, b⟩ := hQ p hpm
          exact ⟨Q, a, fun t' ht' => b t' (.tail _ ht')⟩
        · rw [List.mem_singleton.mp hpm]
          refine ⟨fun x => c * monL (el t) x + 1 * P x, ?_, hlow⟩
          show reduce st.1 (valsOf (lawP ns) t) = _
          rw [hr]
          exact List.map_congr_left fun q _ => by show _ = c * monL (el t) (l3 q) + 1 * P (l3 q); rw [Int.one_mul])
      refine ⟨h1, false :: flags, by rw [h2, List.append_assoc]; rfl, by rw [List.length_cons, List.length_cons, h3], ?_, fun i t' ht' hi => ?_⟩
      · rw [h4, List.length_append, List.filter_cons]
        show st.1.length + 1 + _ = _ + (_ + 1)
        omega
      · cases i with
        | zero => rfl
        | succ i => exact h5 i t' ht' hi

theorem flags_eq : ∀ (f d : List Bool), f.length = d.length → (∀ i : Nat, d[i]? = some true → f[i]? = some false) → (d.filter fun b => b).length ≤ (f.filter fun b => !b).length ∧ ((f.filter fun b => !b).length ≤ (d.filter fun b => b).length → f = d.map fun b => !b)
  | [], [], _, _ => ⟨Nat.le_refl _, fun _ => rfl⟩
  | a :: f, b :: d, hl, h => by
    have ih := flags_eq f d (by simpa using hl) fun i hi => h (i + 1) hi
    have h0 := h 0
    simp only [List.getElem?_cons_zero, Option.some.injEq] at h0
    rw [List.filter_cons, List.filter_cons, List.map_cons]
    cases a <;> cases b <;> simp at h0 ⊢
    · have := ih.1; omega
    · constructor
      · have := ih.1; omega
      · intro hh
        exact ih.2 (by omega)
    · exact ⟨ih.1, ih.2⟩
  | [], _ :: _, hl, _ => by simp at hl
  | _ :: _, [], hl, _ => by simp at hl
theorem lawW_size (ns : List Int) : (lawW ns).length = (lawP ns).length := by
  have := wordsS_size 3 (Nat.le_refl _) (lawL ns) (lawL_ok ns)
  unfold lawW
  rw [this]
  unfold lawL
  rw [List.length_map]
theorem due_eq {ns : List Int} {prs : List N3} (hasc : (prs.map el).Pairwise ltL) (hcov : ∀ w ∈ lawW ns, ∃ t ∈ prs, w = strOf (el t)) : (stAt (lawP ns) prs prs.length).2 = prs.map fun t => !inD 3 (lawL ns) (el t) := by
  have hE := elim_inv (ns := ns) prs ([], []) hasc ⟨(fun _ h => nomatch h), (fun _ h => nomatch h), (fun _ h => nomatch h), List.Pairwise.nil⟩ (fun _ h => nomatch h)
  obtain ⟨h1, flags, h2, h3, h4, h5⟩ := hE
  have hst : (stAt (lawP ns) prs prs.length).2 = flags := by
    unfold stAt
    rw [List.take_length, h2]; rfl
  rw [hst]
  have hl : flags.length = (prs.map fun t => inD 3 (lawL ns) (el t)).length := by rw [List.length_map, h3]
  have hfe := flags_eq flags (prs.map fun t => inD 3 (lawL ns) (el t)) hl fun i hi => by
    rw [List.getElem?_map] at hi
    obtain ⟨t, ht, hi⟩ := Option.map_eq_some_iff.mp hi
    exact h5 i t ht hi
  have hpiv := pivOk_len h1
  rw [h4] at hpiv
  have hcnt : (lawP ns).length ≤ ((prs.map fun t => inD 3 (lawL ns) (el t)).filter fun b => b).length := by
    rw [← lawW_size, List.filter_map, List.length_map]
    have hnd : (lawW ns).Nodup := (wordsOk extOkS 3 (Nat.le_refl _) _).nodup
    have hsub : lawW ns ⊆ (prs.filter ((fun b => b) ∘ fun t => inD 3 (lawL ns) (el t))).map fun t => strOf (el t) := by
      intro w hw
      obtain ⟨t, ht, rfl⟩ := hcov w hw
      refine List.mem_map.mpr ⟨t, List.mem_filter.mpr ⟨ht, ?_⟩, rfl⟩
      exact (strOf_mem (n := 3) (Nat.le_refl _) (e := el t) rfl).mp hw
    have := List.Nodup.length_le_of_subset hnd hsub
    rwa [List.length_map] at this
  have := hfe.2 (by simp at hpiv; omega)
  rw [this, List.map_map]; rfl
end Mine

namespace Mine

noncomputable def cs3 (w : Int) : List (Int × Int) := [(2, 3 * w), (1, 2 * w), (0, w)]
theorem cmp3 (w a b c a' b' c' : Int) : cmpOf (cs3 w) [a, b, c] [a', b', c'] = if c ≠ c' then (if c < c' then -(3 * w) else 3 * w) else if b ≠ b' then (if b < b' then -(2 * w) else 2 * w) else if a ≠ a' then (if a < a' then -w else w) else 0 := by
  have e2 : difF [a, b, c] [a', b', c'] (2, 3 * w) = (c != c') := rfl
  have e1 : difF [a, b, c] [a', b', c'] (1, 2 * w) = (b != b') := rfl
  have e0 : difF [a, b, c] [a', b', c'] (0, w) = (a != a') := rfl
  unfold cmpOf cs3
  rw [List.find?_cons, List.find?_cons, List.find?_cons, List.find?_nil, e2, e1, e0]
  by_cases hc : c = c'
  · by_cases hb : b = b'
    · by_cases ha : a = a'
      · simp [hc, hb, ha]
      · have : (a != a') = true := by simpa using ha
        simp [hc, hb, ha, this]
    · have : (b != b') = true := by simpa using hb
      simp [hc, hb, this]
  · have : (c != c') = true := by simpa using hc
    simp [hc, this]
theorem step3 (a b c a' b' c' : Int) : stepOf [a, b, c] [a', b', c'] = if c ≠ c' then -3 else if b ≠ b' then -2 else if a ≠ a' then -1 else 0 := by
  have e2 : ([a, b, c].getD (2 : Int).toNat 0 != [a', b', c'].getD (2 : Int).toNat 0) = (c != c') := rfl
  have e1 : ([a, b, c].getD (1 : Int).toNat 0 != [a', b', c'].getD (1 : Int).toNat 0) = (b != b') := rfl
  have e0 : ([a, b, c].getD (0 : Int).toNat 0 != [a', b', c'].getD (0 : Int).toNat 0) = (a != a') := rfl
  unfold stepOf
  rw [List.find?_cons, List.find?_cons, List.find?_cons, List.find?_nil, e2, e1, e0]
  by_cases hc : c = c'
  · by_cases hb : b = b'
    · by_cases ha : a = a'
      · simp [hc, hb, ha]
      · have : (a != a') = true := by simpa using ha
        simp [hc, hb, ha, this]
    · have : (b != b') = true := by simpa using hb
      simp [hc, hb, this]
  · have : (c != c') = true := by simpa using hc
    simp [hc, this]
theorem three_list {p : List Int} (h : p.length = 3) : ∃ a b c, p = [a, b, c] := len3 h
noncomputable def less (w : Int) (p q : List Int) : Prop := cmpOf (cs3 w) p q < 0
noncomputable def lt2 (y z y' z' : Int) : Prop := y < y' ∨ (y = y' ∧ z < z')
noncomputable def lt3 (x y z x' y' z' : Int) : Prop := x < x' ∨ (x = x' ∧ lt2 y z y' z')
theorem lt2_trans {y z y' z' u v : Int} (h : lt2 y z y' z') (k : lt2 y' z' u v) : lt2 y z u v := by
  rcases h with h | ⟨rfl, h⟩
  · rcases k with k | ⟨rfl, _⟩
    · exact .inl (Int.lt_trans h k)
    · exact .inl h
  · rcases k with k | ⟨rfl, k⟩
    · exact .inl k
    · exact .inr ⟨rfl, Int.lt_trans h k⟩
theorem lt3_trans {x y z x' y' z' u v w : Int} (h : lt3 x y z x' y' z') (k : lt3 x' y' z' u v w) : lt3 x y z u v w := by
  rcases h with h | ⟨rfl, h⟩
  · rcases k with k | ⟨rfl, _⟩
    · exact .inl (Int.lt_trans h k)
    · exact .inl h
  · rcases k with k | ⟨rfl, k⟩
    · exact .inl k
    · exact .inr ⟨rfl, lt2_trans h k⟩
theorem lt2_tri (y z y' z' : Int) : lt2 y z y' z' ∨ lt2 y' z' y z ∨ (y = y' ∧ z = z') := by
  rcases Int.lt_trichotomy y y' with h | rfl | h
  · exact .inl (.inl h)
  · rcases Int.lt_trichotomy z z' with h | rfl | h
    · exact .inl (.inr ⟨rfl, h⟩)
    · exact .inr (.inr ⟨rfl, rfl⟩)
    · exact .inr (.inl (.inr ⟨rfl, h⟩))
  · exact .inr (.inl (.inl h))
theorem lt3_tri (x y z x' y' z' : Int) : lt3 x y z x' y' z' ∨ lt3 x' y' z' x y z ∨ (x = x' ∧ y = y' ∧ z = z') := by
  rcases Int.lt_trichotomy x x' with h | rfl | h
  · exact .inl (.inl h)
  · rcases lt2_tri y z y' z' with h | h | h
    · exact .inl (.inr ⟨rfl, h⟩)
    · exact .inr (.inl (.inr ⟨rfl, h⟩))
    · exact .inr (.inr ⟨rfl, h⟩)
  · exact .inr (.inl (.inl h))
/-- the first difference's size -/
theorem cmp_lt {w a b c a' b' c' : Int} (h : lt3 c b a c' b' a') : ∃ k, (k = 3 ∨ k = 2 ∨ k = 1) ∧ cmpOf (cs3 w) [a, b, c] [a', b', c'] = -(k * w) ∧ stepOf [a, b, c] [a', b', c'] = -k ∧ cmpOf (cs3 w) [a', b', c'] [a, b, c] = k * w ∧ stepOf [a', b', c'] [a, b, c] = -k := by
  rw [cmp3, step3, cmp3, step3]
  rcases h with h | ⟨rfl, h | ⟨rfl, h⟩⟩
  · exact ⟨3, .inl rfl, by rw [if_pos (Int.ne_of_lt h), if_pos h], by rw [if_pos (Int.ne_of_lt h)], by rw [if_pos (Int.ne_of_gt h), if_neg (Int.lt_asymm h)], by rw [if_pos (Int.ne_of_gt h)]⟩
  · exact ⟨2, .inr (.inl rfl), by rw [if_neg (not_not_intro rfl), if_pos (Int.ne_of_lt h), if_pos h], by rw [if_neg (not_not_intro rfl), if_pos (Int.ne_of_lt h)], by rw [if_neg (not_not_intro rfl), if_pos (Int.ne_of_gt h), if_neg (Int.lt_asymm h)], by rw [if_neg (not_not_intro rfl), if_pos (Int.ne_of_gt h)]⟩
  · exact ⟨1, .inr (.inr rfl), by rw [if_neg (not_not_intro rfl), if_neg (not_not_intro rfl), if_pos (Int.ne_of_lt h), if_pos h, Int.one_mul], by rw [if_neg (not_not_intro rfl), if_neg (not_not_intro rfl), if_pos (Int.ne_of_lt h)], by rw [if_neg (not_not_intro rfl), if_neg (not_not_intro rfl), if_pos (Int.ne_of_gt h), if_neg (Int.lt_asymm h), Int.one_mul], by rw [if_neg (not_not_intro rfl), if_neg (not_not_intro rfl), if_pos (Int.ne_of_gt h)]⟩
theorem cmp_eq (w : Int) (a b c : Int) : cmpOf (cs3 w) [a, b, c] [a, b, c] = 0 ∧ stepOf [a, b, c] [a, b, c] = 0 := by
  rw [cmp3, step3]
  exact ⟨by rw [if_neg (not_not_intro rfl), if_neg (not_not_intro rfl), if_neg (not_not_intro rfl)], by rw [if_neg (not_not_intro rfl), if_neg (not_not_intro rfl), if_neg (not_not_intro rfl)]⟩
theorem less_up {a b c a' b' c' : Int} : less 1 [a, b, c] [a', b', c'] ↔ lt3 c b a c' b' a' := by
  unfold less
  constructor
  · intro h
    rcases lt3_tri c b a c' b' a' with k | k | ⟨rfl, rfl, rfl⟩
    · exact k
    · obtain ⟨n, hn, _, _, e, _⟩ := cmp_lt (w := 1) k
      rw [e] at h
      rcases hn with rfl | rfl | rfl <;> exact absurd h (by decide)
    · rw [(cmp_eq 1 a b c).1] at h
      exact absurd h (by decide)
  · intro k
    obtain ⟨n, hn, e, _⟩ := cmp_lt (w := 1) k
    rw [e]
    rcases hn with rfl | rfl | rfl <;> decide
theorem less_down {a b c a' b' c' : Int} : less (-1) [a, b, c] [a', b', c'] ↔ lt3 c' b' a' c b a := by
  unfold less
  constructor
  · intro h
    rcases lt3_tri c b a c' b' a' with k | k | ⟨rfl, rfl, rfl⟩
    · obtain ⟨n, hn, e, _⟩ := cmp_lt (w := -1) k
      rw [e] at h
      rcases hn with rfl | rfl | rfl <;> exact absurd h (by decide)
    · exact k
    · rw [(cmp_eq (-1) a b c).1] at h
      exact absurd h (by decide)
  · intro k
    obtain ⟨n, hn, _, _, e, _⟩ := cmp_lt (w := -1) k
    rw [e]
    rcases hn with rfl | rfl | rfl <;> decide
theorem less_trans {w : Int} (hw : w = 1 ∨ w = -1) {p q r : List Int} (hp : p.length = 3) (hq : q.length = 3) (hr : r.length = 3) (h : less w p q) (k : less w q r) : less w p r := by
  obtain ⟨a, b, c, rfl⟩ := three_list hp
  obtain ⟨a', b', c', rfl⟩ := three_list hq
  obtain ⟨x, y, z, rfl⟩ := three_list hr
  rcases hw with rfl | rfl
  · exact less_up.mpr (lt3_trans (less_up.mp h) (less_up.mp k))
  · exact less_down.mpr (lt3_trans (less_down.mp k) (less_down.mp h))
theorem less_total {w : Int} (hw : w = 1 ∨ w = -1) {p q : List Int} (hp : p.length = 3) (hq : q.length = 3) (hne : p ≠ q) : less w p q ∨ less w q p := by
  obtain ⟨a, b, c, rfl⟩ := three_list hp
  obtain ⟨a', b', c', rfl⟩ := three_list hq
  rcases lt3_tri c b a c' b' a' with h | h | ⟨rfl, rfl, rfl⟩
  · rcases hw with rfl | rfl
    · exact .inl (less_up.mpr h)
    · exact .inr (less_down.mpr h)
  · rcases hw with rfl | rfl
    · exact .inr (less_up.mpr h)
    · exact .inl (less_down.mpr h)
  · exact absurd rfl hne
theorem less_step {w : Int} (hw : w = 1 ∨ w = -1) {p q : List Int} (hp : p.length = 3) (hq : q.length = 3) (h : less w p q ∨ p = q) : cmpOf (cs3 w) p q = stepOf p q := by
  obtain ⟨a, b, c, rfl⟩ := three_list hp
  obtain ⟨a', b', c', rfl⟩ := three_list hq
  rcases h with h | h
  · rcases hw with rfl | rfl
    · obtain ⟨n, _, e1, e2, _⟩ := cmp_lt (w := 1) (less_up.mp h)
      rw [e1, e2, Int.mul_one]
    · obtain ⟨n, _, _, _, e1, e2⟩ := cmp_lt (w := -1) (less_down.mp h)
      rw [e1, e2, Int.mul_neg, Int.mul_one]
  · rw [← h, (cmp_eq w a b c).1, (cmp_eq w a b c).2]

/-! where the search ends -/
theorem bs_spec (lt : Nat → Bool) (N : Nat) (mono : ∀ m m', m ≤ m' → m' < N → lt m = true → lt m' = true) : ∀ f lo hi, lo ≤ hi → hi ≤ N → hi - lo ≤ f → (∀ m, m < lo → lt m = false) → (∀ m, hi ≤ m → m < N → lt m = true) →
    (∀ m, m < bs lt f lo hi → lt m = false) ∧ (∀ m, bs lt f lo hi ≤ m → m < N → lt m = true)
  | 0, lo, hi, h1, h2, h3, h4, h5 => by
    have e : lo = hi := by omega
    subst e
    exact ⟨h4, h5⟩
  | f + 1, lo, hi, h1, h2, h3, h4, h5 => by
    rw [bs]
    by_cases hl : lo < hi
    · rw [if_pos hl]
      cases hm : lt ((lo + hi) / 2) with
      | true =>
        simp only [if_true]
        exact bs_spec lt N mono f lo _ (by omega) (by omega) (by omega) h4 fun m a b => mono _ m a b hm
      | false =>
        simp only [Bool.false_eq_true, if_false]
        refine bs_spec lt N mono f _ hi (by omega) h2 (by omega) (fun m a => ?_) h5
        cases hq : lt m with
        | false => rfl
        | true =>
          have := mono m ((lo + hi) / 2) (by omega) (by omega) hq
          rw [hm] at this; cases this
    · rw [if_neg hl]
      have e : lo = hi := by omega
      subst e
      exact ⟨h4, h5⟩
theorem insR_sorted {w : Int} (hw : w = 1 ∨ w = -1) {rep : List (List Int)} {p : List Int} (hr : ∀ q ∈ rep, q.length = 3) (hp : p.length = 3) (hn : p ∉ rep) (hs : rep.Pairwise (less w)) : (insR (cs3 w) rep p).Pairwise (less w) := by
  have hget : ∀ m, m < rep.length → rep.getD m [] ∈ rep ∧ rep[m]? = some (rep.getD m []) := fun m hm => by
    have e : rep[m]? = some rep[m] := List.getElem?_eq_getElem hm
    rw [List.getD_eq_getElem?_getD, e]
    exact ⟨List.getElem_mem hm, rfl⟩
  have mono : ∀ m m', m ≤ m' → m' < rep.length → decide (cmpOf (cs3 w) p (rep.getD m []) < 0) = true → decide (cmpOf (cs3 w) p (rep.getD m' []) < 0) = true := by
    intro m m' h1 h2 h3
    rcases Nat.eq_or_lt_of_le h1 with rfl | h1
    · exact h3
    · refine decide_eq_true ?_
      have a := hget m (by omega)
      have b := hget m' h2
      have hl : less w (rep.getD m []) (rep.getD m' []) := by
        have := List.pairwise_iff_getElem.mp hs m m' (by omega) h2 h1
        rwa [List.getD_eq_getElem?_getD, List.getD_eq_getElem?_getD, List.getElem?_eq_getElem (by omega : m < rep.length), List.getElem?_eq_getElem h2]
      exact less_trans hw hp (hr _ a.1) (hr _ b.1) (of_decide_eq_true (p := cmpOf (cs3 w) p (rep.getD m []) < 0) h3) hl
  obtain ⟨s1, s2⟩ := bs_spec (fun m => decide (cmpOf (cs3 w) p (rep.getD m []) < 0)) rep.length mono rep.length 0 rep.length (Nat.zero_le _) (Nat.le_refl _) (by omega) (fun m h => absurd h (Nat.not_lt_zero _)) (fun m h h' => by omega)
  unfold insR
  generalize bs (fun m => decide (cmpOf (cs3 w) p (rep.getD m []) < 0)) rep.length 0 rep.length = k at s1 s2 ⊢
  have htake : ∀ q ∈ rep.take k, less w q p := by
    intro q hq
    obtain ⟨m, hm, e⟩ := List.mem_iff_getElem.mp hq
    rw [List.length_take] at hm
    have e' : rep.getD m [] = q := by
      rw [← e, List.getElem_take, List.getD_eq_getElem?_getD, List.getElem?_eq_getElem (by omega)]; rfl
    have hf : ¬ cmpOf (cs3 w) p (rep.getD m []) < 0 := of_decide_eq_false (s1 m (by omega))
    rw [e'] at hf
    have hqr : q ∈ rep := List.mem_of_mem_take hq
    rcases less_total hw hp (hr q hqr) (fun e => hn (e ▸ hqr)) with h | h
    · exact absurd h hf
    · exact h
  have hdrop : ∀ q ∈ rep.drop k, less w p q := by
    intro q hq
    obtain ⟨m, hm, e⟩ := List.mem_iff_getElem.mp hq
    rw [List.length_drop] at hm
    have e' : rep.getD (k + m) [] = q := by
      rw [← e, List.getElem_drop, List.getD_eq_getElem?_getD, List.getElem?_eq_getElem (by omega)]; rfl
    have hf : cmpOf (cs3 w) p (rep.getD (k + m) []) < 0 := of_decide_eq_true (s2 (k + m) (by omega) (by omega))
    rw [e'] at hf
    exact hf
  have hs' : (rep.take k ++ rep.drop k).Pairwise (less w) := by rw [List.take_append_drop]; exact hs
  rw [List.pairwise_append] at hs'
  rw [List.append_assoc, List.pairwise_append, List.singleton_append, List.pairwise_cons]
  refine ⟨hs'.1, ⟨hdrop, hs'.2.1⟩, fun a ha b hb => ?_⟩
  rcases List.mem_cons.mp hb with rfl | hb
  · exact htake a ha
  · exact hs'.2.2 a ha b hb
theorem repAt_sorted {w : Int} (hw : w = 1 ∨ w = -1) {ps : List (List Int)} (hp : ∀ p ∈ ps, p.length = 3) (hn : ps.Nodup) : ∀ n, n ≤ ps.length → (repAt (cs3 w) ps n).Pairwise (less w)
  | 0, _ => by unfold repAt; simp
  | n + 1, h => by
    have e : ps[n]? = some ps[n] := List.getElem?_eq_getElem h
    rw [repAt_succ e]
    refine insR_sorted hw (fun q hq => hp q (List.mem_of_mem_take ((repAt_mem _ ps n (Nat.le_of_succ_le h) q).mp hq))) (hp _ (List.getElem_mem h)) (fun hm => ?_) (repAt_sorted hw hp hn n (Nat.le_of_succ_le h))
    have := (repAt_mem _ ps n (Nat.le_of_succ_le h) _).mp hm
    obtain ⟨m, hm', e'⟩ := List.mem_iff_getElem.mp this
    rw [List.length_take] at hm'
    rw [List.getElem_take] at e'
    exact List.pairwise_iff_getElem.mp hn m n (by omega) h (by omega) e'

/-! the products -/
theorem addNew_nodup {acc : List (List Int)} {p : List Int} (h : acc.Nodup) : (addNew acc p).Nodup := by
  unfold addNew
  split
  · exact h
  · rename_i hc
    exact List.nodup_append.mpr ⟨h, by simp, fun a ha b hb e => hc (by rw [List.mem_singleton] at hb; rw [← hb, ← e]; simpa using ha)⟩
theorem mem_addNew {acc : List (List Int)} {p q : List Int} : q ∈ addNew acc p ↔ q ∈ acc ∨ q = p := by
  unfold addNew
  split
  · rename_i hc
    constructor
    · exact .inl
    · rintro (h | rfl)
      · exact h
      · simpa using hc
  · rw [List.mem_append, List.mem_singleton]
theorem foldNew_nodup : ∀ (ps acc : List (List Int)), acc.Nodup → (ps.foldl addNew acc).Nodup
  | [], _, h => h
  | p :: ps, _, h => foldNew_nodup ps _ (addNew_nodup h)
theorem mem_foldNew {q : List Int} : ∀ (ps acc : List (List Int)), q ∈ ps.foldl addNew acc ↔ q ∈ acc ∨ q ∈ ps
  | [], acc => by simp
  | p :: ps, acc => by
    rw [List.foldl_cons, mem_foldNew ps, mem_addNew, List.mem_cons, or_assoc]
theorem prods_nodup (ws : List Str) : (prods ws).Nodup := by
  unfold prods prods1
  suffices ∀ (l : List Str) (acc : List (List Int)), acc.Nodup → (l.foldl (fun acc w => (grow (cA w) (cB w) (cC w)).foldl addNew acc) acc).Nodup from this _ _ (by simp)
  intro l
  induction l with
  | nil => intro acc h; exact h
  | cons x l ih => intro acc h; exact ih _ (foldNew_nodup _ _ h)
theorem mem_prods {ws : List Str} {q : List Int} : q ∈ prods ws ↔ ∃ w ∈ ws, q ∈ grow (cA w) (cB w) (cC w) := by
  unfold prods prods1
  rw [List.take_length]
  suffices ∀ (l : List Str) (acc : List (List Int)), q ∈ l.foldl (fun acc w => (grow (cA w) (cB w) (cC w)).foldl addNew acc) acc ↔ q ∈ acc ∨ ∃ w ∈ l, q ∈ grow (cA w) (cB w) (cC w) by rw [this]; simp
  intro l
  induction l with
  | nil => intro acc; simp
  | cons x l ih =>
    intro acc
    rw [List.foldl_cons, ih, mem_foldNew]
    simp [or_assoc]
theorem grow_len {i j k : Int} {q : List Int} (h : q ∈ grow i j k) : q.length = 3 := by
  unfold grow at h
  simp only [List.mem_cons, List.not_mem_nil, or_false] at h
  rcases h with rfl | rfl | rfl | rfl | rfl <;> rfl
theorem prods_len3 {ws : List Str} : ∀ p ∈ prods ws, p.length = 3 := by
  intro p hp
  obtain ⟨w, _, h⟩ := mem_prods.mp hp
  exact grow_len h

theorem lawR_sorted (ns : List Int) : (lawR ns).Pairwise (less (lawWay ns)) := repAt_sorted (way_cases ns) prods_len3 (prods_nodup _) _ (Nat.le_refl _)
theorem lawR_len3 (ns : List Int) : ∀ p ∈ lawR ns, p.length = 3 := fun p hp => prods_len3 p ((mem_lawR ns p).mp hp)
theorem law_steps (ns : List Int) : (lawPairs ns).map (fun p => cmpOf (lawCs ns) p.1 p.2) = (lawPairs ns).map fun p => stepOf p.1 p.2 := by
  refine List.map_congr_left fun p hp => ?_
  have hz := List.of_mem_zip hp
  have h1 := lawR_len3 ns _ hz.1
  have h2 : p.2 ∈ lawR ns := by
    rcases List.mem_append.mp hz.2 with h | h
    · exact List.mem_of_mem_drop h
    · exact List.mem_of_mem_drop h
  refine less_step (way_cases ns) h1 (lawR_len3 ns _ h2) ?_
  obtain ⟨i, hi, e⟩ := List.mem_iff_getElem.mp hp
  unfold lawPairs at hi e
  rw [List.length_zip] at hi
  rw [List.getElem_zip] at e
  subst e
  dsimp only
  have hil : i < (lawR ns).length := by omega
  by_cases hl : i + 1 < (lawR ns).length
  · left
    have := List.pairwise_iff_getElem.mp (lawR_sorted ns) i (i + 1) hil hl (by omega)
    rw [List.getElem_append_left (by rw [List.length_drop]; omega), List.getElem_drop]
    have e : 1 + i = i + 1 := by omega
    simp only [e]
    exact this
  · right
    rw [List.getElem_append_right (by rw [List.length_drop]; omega), List.getElem_drop]
    have e : (lawR ns).length - 1 + (i - ((lawR ns).drop 1).length) = i := by rw [List.length_drop]; omega
    simp only [e]

theorem toNat_up {c c' : Int} (h0 : 0 ≤ c) (h : c < c') : c.toNat < c'.toNat := (Int.toNat_lt_toNat (Int.lt_of_le_of_lt h0 h)).mpr h
theorem lt3_ltL {a b c a' b' c' : Int} (ha : 0 ≤ a) (hb : 0 ≤ b) (hc : 0 ≤ c) (h : lt3 c b a c' b' a') : ltL [a.toNat, b.toNat, c.toNat] [a'.toNat, b'.toNat, c'.toNat] := by
  rcases h with h | ⟨rfl, h | ⟨rfl, h⟩⟩
  · exact .inl (.inl (.inr ⟨rfl, toNat_up hc h⟩))
  · exact .inl (.inr ⟨rfl, toNat_up hb h⟩)
  · exact .inr ⟨rfl, toNat_up ha h⟩
theorem less_lt {p q : List Int} (hp : p.length = 3) (hq : q.length = 3) (hp0 : ∀ x ∈ p, 0 ≤ x) : (less 1 p q → ltL (el (toN p)) (el (toN q))) ∧ (less (-1) q p → ltL (el (toN p)) (el (toN q))) := by
  obtain ⟨a, b, c, rfl⟩ := three_list hp
  obtain ⟨a', b', c', rfl⟩ := three_list hq
  have ha := hp0 a (.head _)
  have hb := hp0 b (.tail _ (.head _))
  have hc := hp0 c (.tail _ (.tail _ (.head _)))
  exact ⟨fun h => lt3_ltL ha hb hc (less_up.mp h), fun h => lt3_ltL ha hb hc (less_down.mp h)⟩
theorem lawO_asc (ns : List Int) (h0 : ∀ p ∈ prods (lawW ns), ∀ x ∈ p, 0 ≤ x) : (((lawO ns).map toN).map el).Pairwise ltL := by
  rw [List.map_map]
  refine List.pairwise_map.mpr ?_
  have hs := lawR_sorted ns
  have h0' : ∀ p ∈ lawR ns, ∀ x ∈ p, 0 ≤ x := fun p hp => h0 p ((mem_lawR ns p).mp hp)
  unfold lawO
  rcases way_cases ns with h | h <;> rw [h] at hs ⊢
  · rw [pick_whole]
    exact List.Pairwise.imp_of_mem (fun {p q} hp hq hl => (less_lt (lawR_len3 ns p hp) (lawR_len3 ns q hq) (h0' p hp)).1 hl) hs
  · rw [pick_rev, List.pairwise_reverse]
    exact List.Pairwise.imp_of_mem (fun {p q} hp hq hl => (less_lt (lawR_len3 ns q hq) (lawR_len3 ns p hp) (h0' q hq)).2 hl) hs
end Mine

namespace Mine

noncomputable def wl (i j k : Nat) : List Nat := List.replicate i 97 ++ (List.replicate j 98 ++ List.replicate k 99)
theorem strOf_cps (i j k : Nat) : (strOf [i, j, k]).cps.toList = wl i j k := by
  show (extS 2 i (extS 1 j (extS 0 k ⟨#[]⟩))).cps.toList = _
  rw [ext_cps, ext_cps, ext_cps]
  show List.replicate i 97 ++ (List.replicate j 98 ++ (List.replicate k 99 ++ [])) = _
  rw [List.append_nil]; rfl
theorem cnt_rep (c d : Nat) : ∀ n, PyProof.Rows.cnt c (List.replicate n d) = if d = c then (n : Int) else 0
  | 0 => by simp [PyProof.Rows.cnt_nil]
  | n + 1 => by
    rw [List.replicate_succ, PyProof.Rows.cnt_cons, cnt_rep c d n]
    by_cases h : d = c <;> simp [h]; omega
theorem cA_of (i j k : Nat) : cA (strOf [i, j, k]) = i := by
  unfold cA one
  rw [count_cnt, strOf_cps]
  unfold wl
  rw [PyProof.Rows.cnt_append, PyProof.Rows.cnt_append, cnt_rep, cnt_rep, cnt_rep]; simp
theorem cB_of (i j k : Nat) : cB (strOf [i, j, k]) = j := by
  unfold cB one
  rw [count_cnt, strOf_cps]
  unfold wl
  rw [PyProof.Rows.cnt_append, PyProof.Rows.cnt_append, cnt_rep, cnt_rep, cnt_rep]; simp
theorem cC_of (i j k : Nat) : cC (strOf [i, j, k]) = k := by
  unfold cC one
  rw [count_cnt, strOf_cps]
  unfold wl
  rw [PyProof.Rows.cnt_append, PyProof.Rows.cnt_append, cnt_rep, cnt_rep, cnt_rep]; simp
theorem wl_len (i j k : Nat) : (wl i j k).length = i + j + k := by unfold wl; simp; omega
theorem mem_lawW {ns : List Int} {w : Str} : w ∈ lawW ns ↔ ∃ i j k, w = strOf [i, j, k] ∧ inD 3 (lawL ns) [i, j, k] = true := by
  unfold lawW
  rw [mem_wordsS 3 (Nat.le_refl _)]
  constructor
  · rintro ⟨e, he, rfl, hi⟩
    match e, he with
    | [i, j, k], _ => exact ⟨i, j, k, rfl, hi⟩
  · rintro ⟨i, j, k, rfl, hi⟩
    exact ⟨_, rfl, rfl, hi⟩
theorem lawW_small {ns : List Int} {i j k : Nat} (h : inD 3 (lawL ns) [i, j, k] = true) : i + j + k ≤ 9 := by
  have := lawW_short ns (strOf [i, j, k]) (mem_lawW.mpr ⟨i, j, k, rfl, h⟩)
  have e : (strOf [i, j, k]).length = (wl i j k).length := congrArg List.length (strOf_cps i j k)
  rw [e, wl_len] at this
  exact this
theorem mem_lawProds {ns : List Int} {q : List Int} : q ∈ prods (lawW ns) ↔ ∃ i j k : Nat, inD 3 (lawL ns) [i, j, k] = true ∧ q ∈ grow i j k := by
  rw [mem_prods]
  constructor
  · rintro ⟨w, hw, hq⟩
    obtain ⟨i, j, k, rfl, hi⟩ := mem_lawW.mp hw
    rw [cA_of, cB_of, cC_of] at hq
    exact ⟨i, j, k, hi, hq⟩
  · rintro ⟨i, j, k, hi, hq⟩
    refine ⟨_, mem_lawW.mpr ⟨i, j, k, rfl, hi⟩, ?_⟩
    rw [cA_of, cB_of, cC_of]; exact hq
theorem small0 {n : Nat} (h : n ≤ 9) : 0 ≤ (n : Int) ∧ (n : Int) ≤ 20 := by omega
theorem small1 {n : Nat} (h : n ≤ 9) : 0 ≤ (n : Int) + 1 ∧ (n : Int) + 1 ≤ 20 := by omega
theorem all3 {a b c : Int} (ha : 0 ≤ a ∧ a ≤ 20) (hb : 0 ≤ b ∧ b ≤ 20) (hc : 0 ≤ c ∧ c ≤ 20) : ∀ x ∈ [a, b, c], 0 ≤ x ∧ x ≤ 20 := by
  intro x hx
  rcases List.mem_cons.mp hx with rfl | hx
  · exact ha
  · rcases List.mem_cons.mp hx with rfl | hx
    · exact hb
    · rw [List.mem_singleton.mp hx]; exact hc
theorem law_small (ns : List Int) : ∀ p ∈ prods (lawW ns), p.length = 3 ∧ ∀ x ∈ p, 0 ≤ x ∧ x ≤ 20 := by
  intro p hp
  obtain ⟨i, j, k, hi, hq⟩ := mem_lawProds.mp hp
  have h9 := lawW_small hi
  have hi9 : i ≤ 9 := Nat.le_trans (Nat.le_trans (Nat.le_add_right _ _) (Nat.le_add_right _ _)) h9
  have hj9 : j ≤ 9 := Nat.le_trans (Nat.le_trans (Nat.le_add_left _ _) (Nat.le_add_right _ _)) h9
  have hk9 : k ≤ 9 := Nat.le_trans (Nat.le_add_left _ _) h9
  refine ⟨grow_len hq, ?_⟩
  unfold grow at hq
  simp only [List.mem_cons, List.not_mem_nil, or_false] at hq
  rcases hq with rfl | rfl | rfl | rfl | rfl
  · exact all3 (small1 hi9) (small1 hj9) (small1 hk9)
  · exact all3 (small0 hi9) (small0 hj9) (small1 hk9)
  · exact all3 (small0 hi9) (small1 hj9) (small0 hk9)
  · exact all3 (small1 hi9) (small0 hj9) (small0 hk9)
  · exact all3 (small0 hi9) (small0 hj9) (small0 hk9)
theorem law_cover (ns : List Int) : ∀ w ∈ lawW ns, ∃ t ∈ (lawO ns).map toN, w = strOf (el t) := by
  intro w hw
  obtain ⟨i, j, k, rfl, hi⟩ := mem_lawW.mp hw
  refine ⟨(i, j, k), List.mem_map.mpr ⟨[(i : Int), j, k], (mem_lawO ns _).mpr (mem_lawProds.mpr ⟨i, j, k, hi, ?_⟩), ?_⟩, rfl⟩
  · unfold grow; simp
  · show ((i : Int).toNat, (j : Int).toNat, (k : Int).toNat) = (i, j, k)
    simp
theorem law_due (ns : List Int) : lawDue ns = (lawO ns).map fun p => !inD 3 (lawL ns) (el (toN p)) := by
  unfold lawDue
  rw [due_eq (lawO_asc ns fun p hp x hx => ((law_small ns p hp).2 x hx).1) (law_cover ns), List.map_map]; rfl

/-! a word with one letter more -/
theorem rep_sorted (n c : Nat) : (List.replicate n c).Pairwise (· ≤ ·) := List.pairwise_replicate.mpr (.inr (Nat.le_refl _))
theorem wl_sorted (i j k : Nat) : (wl i j k).Pairwise (· ≤ ·) := by
  unfold wl
  rw [List.pairwise_append, List.pairwise_append]
  refine ⟨rep_sorted _ _, ⟨rep_sorted _ _, rep_sorted _ _, fun a ha b hb => ?_⟩, fun a ha b hb => ?_⟩
  · rw [List.eq_of_mem_replicate ha, List.eq_of_mem_replicate hb]; decide
  · rw [List.eq_of_mem_replicate ha]
    rcases List.mem_append.mp hb with hb | hb <;> rw [List.eq_of_mem_replicate hb] <;> decide
theorem sortC_of {x : Str} {l : List Nat} (hp : l.Perm x.cps.toList) (hs : l.Pairwise (· ≤ ·)) : sortC x = l := by
  unfold sortC
  have h1 := List.pairwise_mergeSort (le := fun a b : Nat => decide (a ≤ b)) (fun a b c h1 h2 => by simp only [decide_eq_true_eq] at *; omega) (fun a b => by simp only [Bool.or_eq_true, decide_eq_true_eq]; omega) x.cps.toList
  refine List.Perm.eq_of_pairwise (le := fun a b : Nat => a ≤ b) (fun a b _ _ h1 h2 => Nat.le_antisymm h1 h2) (h1.imp fun h => by simpa using h) hs ?_
  exact (List.mergeSort_perm _ _).trans hp.symm
theorem flat_one (l : List Nat) : (l.map one).flatMap (fun x => x.cps.toList) = l := by
  induction l with
  | nil => rfl
  | cons a l ih => rw [List.map_cons, List.flatMap_cons, ih]; rfl
theorem lng_of {w : Str} {c : Nat} {l : List Nat} (hp : l.Perm (w.cps.toList ++ [c])) (hs : l.Pairwise (· ≤ ·)) : (lng w c).cps.toList = l := by
  unfold lng
  rw [join_cps, flat_one]
  refine sortC_of ?_ hs
  rw [cps_append]; exact hp
theorem lngA (i j k : Nat) : lng (strOf [i, j, k]) 97 = strOf [i + 1, j, k] := by
  refine str_ext ?_
  rw [strOf_cps]
  refine lng_of ?_ (wl_sorted _ _ _)
  rw [strOf_cps]
  unfold wl
  rw [List.replicate_succ, List.cons_append]
  exact (List.perm_append_singleton _ _).symm
theorem lngB (i j k : Nat) : lng (strOf [i, j, k]) 98 = strOf [i, j + 1, k] := by
  refine str_ext ?_
  rw [strOf_cps]
  refine lng_of ?_ (wl_sorted _ _ _)
  rw [strOf_cps]
  unfold wl
  rw [List.replicate_succ, List.cons_append]
  exact List.perm_middle.trans (List.perm_append_singleton _ _).symm
theorem lngC (i j k : Nat) : lng (strOf [i, j, k]) 99 = strOf [i, j, k + 1] := by
  refine str_ext ?_
  rw [strOf_cps]
  refine lng_of ?_ (wl_sorted _ _ _)
  rw [strOf_cps]
  unfold wl
  rw [List.replicate_succ', List.append_assoc, List.append_assoc]

/-! the border -/
theorem addB_iff {ws acc : List Str} {l x : Str} : x ∈ addB ws acc l ↔ x ∈ acc ∨ (x = l ∧ x ∉ ws) := by
  unfold addB
  by_cases h1 : l ∈ ws
  · have : (!ws.contains l && !acc.contains l) = false := by simp [h1]
    rw [if_neg (by rw [this]; simp)]
    constructor
    · exact .inl
    · rintro (h | ⟨rfl, h⟩)
      · exact h
      · exact absurd h1 h
  · by_cases h2 : l ∈ acc
    · have : (!ws.contains l && !acc.contains l) = false := by simp [h2]
      rw [if_neg (by rw [this]; simp)]
      constructor
      · exact .inl
      · rintro (h | ⟨rfl, h⟩)
        · exact h
        · exact h2
    · have : (!ws.contains l && !acc.contains l) = true := by simp [h1, h2]
      rw [if_pos this, List.mem_append, List.mem_singleton]
      constructor
      · rintro (h | rfl)
        · exact .inl h
        · exact .inr ⟨rfl, h1⟩
      · rintro (h | ⟨rfl, _⟩)
        · exact .inl h
        · exact .inr rfl
theorem addW_iff {ws acc : List Str} {w x : Str} : x ∈ addW ws acc w ↔ x ∈ acc ∨ (x ∉ ws ∧ (x = lng w 97 ∨ x = lng w 98 ∨ x = lng w 99)) := by
  unfold addW
  rw [List.foldl_cons, List.foldl_cons, List.foldl_cons, List.foldl_nil, addB_iff, addB_iff, addB_iff]
  constructor
  · rintro (((h | ⟨h, k⟩) | ⟨h, k⟩) | ⟨h, k⟩)
    · exact .inl h
    · exact .inr ⟨k, .inl h⟩
    · exact .inr ⟨k, .inr (.inl h)⟩
    · exact .inr ⟨k, .inr (.inr h)⟩
  · rintro (h | ⟨k, h | h | h⟩)
    · exact .inl (.inl (.inl h))
    · exact .inl (.inl (.inr ⟨h, k⟩))
    · exact .inl (.inr ⟨h, k⟩)
    · exact .inr ⟨h, k⟩
theorem bord_iff {ws : List Str} {x : Str} : x ∈ bord ws ↔ x ∉ ws ∧ ∃ w ∈ ws, x = lng w 97 ∨ x = lng w 98 ∨ x = lng w 99 := by
  unfold bord bord1
  rw [List.take_length]
  suffices ∀ (l acc : List Str), x ∈ l.foldl (addW ws) acc ↔ x ∈ acc ∨ (x ∉ ws ∧ ∃ w ∈ l, x = lng w 97 ∨ x = lng w 98 ∨ x = lng w 99) by rw [this]; simp
  intro l
  induction l with
  | nil => intro acc; simp
  | cons y l ih =>
    intro acc
    rw [List.foldl_cons, ih, addW_iff]
    constructor
    · rintro ((h | ⟨k, h⟩) | ⟨k, w, hw, h⟩)
      · exact .inl h
      · exact .inr ⟨k, y, .head _, h⟩
      · exact .inr ⟨k, w, .tail _ hw, h⟩
    · rintro (h | ⟨k, w, hw, h⟩)
      · exact .inl (.inl h)
      · rcases List.mem_cons.mp hw with rfl | hw
        · exact .inl (.inr ⟨k, h⟩)
        · exact .inr ⟨k, w, hw, h⟩
noncomputable def nextTo (e f : List Nat) : Prop := ∃ i j k, e = [i, j, k] ∧ (f = [i + 1, j, k] ∨ f = [i, j + 1, k] ∨ f = [i, j, k + 1])
theorem mem_lawB {ns : List Int} {x : Str} : x ∈ bord (lawW ns) ↔ ∃ i j k, x = strOf [i, j, k] ∧ inD 3 (lawL ns) [i, j, k] = false ∧ ∃ e, inD 3 (lawL ns) e = true ∧ nextTo e [i, j, k] := by
  rw [bord_iff]
  have hno : ∀ i j k, strOf [i, j, k] ∉ lawW ns ↔ inD 3 (lawL ns) [i, j, k] = false := fun i j k => by
    rw [show (strOf [i, j, k] ∈ lawW ns) ↔ _ from strOf_mem (n := 3) (Nat.le_refl _) (e := [i, j, k]) rfl]; simp
  constructor
  · rintro ⟨hn, w, hw, h⟩
    obtain ⟨i, j, k, rfl, hi⟩ := mem_lawW.mp hw
    rw [lngA, lngB, lngC] at h
    rcases h with rfl | rfl | rfl
    · exact ⟨_, _, _, rfl, (hno _ _ _).mp hn, _, hi, i, j, k, rfl, .inl rfl⟩
    · exact ⟨_, _, _, rfl, (hno _ _ _).mp hn, _, hi, i, j, k, rfl, .inr (.inl rfl)⟩
    · exact ⟨_, _, _, rfl, (hno _ _ _).mp hn, _, hi, i, j, k, rfl, .inr (.inr rfl)⟩
  · rintro ⟨i, j, k, rfl, hn, e, he, a, b, c, rfl, h⟩
    refine ⟨(hno _ _ _).mpr hn, strOf [a, b, c], mem_lawW.mpr ⟨a, b, c, rfl, he⟩, ?_⟩
    rw [lngA, lngB, lngC]
    rcases h with h | h | h
    · exact .inl (congrArg strOf h)
    · exact .inr (.inl (congrArg strOf h))
    · exact .inr (.inr (congrArg strOf h))
/-- outside of D a border word divides -/
noncomputable def Bd (ns : List Int) (i j k : Nat) : Prop := ∃ a b c, strOf [a, b, c] ∈ bord (lawW ns) ∧ a ≤ i ∧ b ≤ j ∧ c ≤ k
theorem Bd.up {ns : List Int} {i j k x y z : Nat} (h : Bd ns i j k) (h1 : i ≤ x) (h2 : j ≤ y) (h3 : k ≤ z) : Bd ns x y z := by
  obtain ⟨a, b, c, hm, l1, l2, l3⟩ := h
  exact ⟨a, b, c, hm, Nat.le_trans l1 h1, Nat.le_trans l2 h2, Nat.le_trans l3 h3⟩
theorem Bd.step {ns : List Int} {e : List Nat} {i j k : Nat} (he : inD 3 (lawL ns) e = true) (hn : nextTo e [i, j, k]) (h : inD 3 (lawL ns) [i, j, k] = false) : Bd ns i j k :=
  ⟨i, j, k, mem_lawB.mpr ⟨i, j, k, rfl, h, _, he, hn⟩, Nat.le_refl _, Nat.le_refl _, Nat.le_refl _⟩
theorem bord_zero {ns : List Int} (h : inD 3 (lawL ns) [0, 0, 0] = false) : Bd ns 0 0 0 := by
  have := zero_in 3 (lawL ns) (lawL_ok ns)
  rw [show List.replicate 3 0 = [0, 0, 0] from rfl, h] at this
  cases this
theorem bord_go {ns : List Int} {e f g : Nat → Nat} (hz : inD 3 (lawL ns) [e 0, f 0, g 0] = false → Bd ns (e 0) (f 0) (g 0)) (hn : ∀ i, nextTo [e i, f i, g i] [e (i + 1), f (i + 1), g (i + 1)])
    (h1 : ∀ i, e i ≤ e (i + 1)) (h2 : ∀ i, f i ≤ f (i + 1)) (h3 : ∀ i, g i ≤ g (i + 1)) (i : Nat) : inD 3 (lawL ns) [e i, f i, g i] = false → Bd ns (e i) (f i) (g i) := by
  induction i with
  | zero => exact hz
  | succ i ih =>
    intro h
    rcases Bool.eq_false_or_eq_true (inD 3 (lawL ns) [e i, f i, g i]) with hd | hd
    · exact Bd.step hd (hn i) h
    · exact (ih hd).up (h1 i) (h2 i) (h3 i)
theorem border_of {ns : List Int} (i j k : Nat) : inD 3 (lawL ns) [i, j, k] = false → Bd ns i j k :=
  bord_go (e := id) (f := fun _ => j) (g := fun _ => k)
    (bord_go (e := fun _ => 0) (f := id) (g := fun _ => k)
      (bord_go (e := fun _ => 0) (f := fun _ => 0) (g := id) bord_zero (fun i => ⟨_, _, _, rfl, .inr (.inr rfl)⟩) (fun _ => Nat.le_refl _) (fun _ => Nat.le_refl _) (fun i => Nat.le_succ i) k)
      (fun i => ⟨_, _, _, rfl, .inr (.inl rfl)⟩) (fun _ => Nat.le_refl _) (fun i => Nat.le_succ i) (fun _ => Nat.le_refl _) j)
    (fun i => ⟨_, _, _, rfl, .inl rfl⟩) (fun i => Nat.le_succ i) (fun _ => Nat.le_refl _) (fun _ => Nat.le_refl _) i
theorem border_iff {ns : List Int} (i j k : Nat) : (∃ a b c, strOf [a, b, c] ∈ bord (lawW ns) ∧ a ≤ i ∧ b ≤ j ∧ c ≤ k) ↔ inD 3 (lawL ns) [i, j, k] = false := by
  constructor
  · rintro ⟨a, b, c, hm, h1, h2, h3⟩
    obtain ⟨x, y, z, he, hn, _⟩ := mem_lawB.mp hm
    have e := strOf_inj [a, b, c] [x, y, z] (Nat.le_refl _) rfl he
    cases hd : inD 3 (lawL ns) [i, j, k] with
    | false => rfl
    | true =>
      have := inD_lower 3 (lawL ns) [i, j, k] [a, b, c] ⟨h1, h2, h3, trivial⟩ hd
      rw [e, hn] at this
      cases this
  · exact border_of i j k
end Mine

namespace Mine

/-! one piece in another -/
theorem inStr_iff (y x : Str) : inStr y x = true ↔ y.cps.toList <:+: x.cps.toList := by
  unfold inStr
  rw [PySem.StrLaws.found_iff]
  have hl : ∀ z : Str, z.length = z.cps.toList.length := fun z => Array.length_toList.symm
  constructor
  · rintro ⟨i, h1, h2⟩
    rw [PySem.StrLaws.subAt_eq, beq_iff_eq] at h2
    refine ⟨x.cps.toList.take i, (x.cps.toList.drop i).drop y.length, ?_⟩
    rw [← h2, List.append_assoc, List.take_append_drop, List.take_append_drop]
  · rintro ⟨s, t, h⟩
    refine ⟨s.length, ?_, ?_⟩
    · have := congrArg List.length h
      rw [List.length_append, List.length_append] at this
      rw [hl, hl]; omega
    · rw [PySem.StrLaws.subAt_eq, beq_iff_eq, ← h, List.append_assoc, List.drop_left, hl, List.take_left]
theorem infix_sep {b X Y : List Nat} {c : Nat} (hc : c ∉ b) (h : b <:+: X ++ c :: Y) : b <:+: X ∨ b <:+: Y := by
  obtain ⟨s, t, h⟩ := h
  rcases List.append_eq_append_iff.mp h with ⟨r, h1, h2⟩ | ⟨r, h1, h2⟩
  · exact .inl ⟨s, r, h1.symm⟩
  · match r, h1, h2 with
    | [], h1, _ => exact .inl ⟨s, [], by rw [List.append_nil] at h1 ⊢; exact h1⟩
    | d :: r, h1, h2 =>
      rw [List.cons_append, List.cons.injEq] at h2
      obtain ⟨rfl, h2⟩ := h2
      rcases List.append_eq_append_iff.mp h1 with ⟨u, h3, h4⟩ | ⟨u, h3, h4⟩
      · exact absurd (by rw [h4]; exact List.mem_append_right _ (.head _)) hc
      · match u, h3, h4 with
        | [], _, h4 => exact absurd (by rw [List.nil_append] at h4; rw [← h4]; exact .head _) hc
        | e :: u, _, h4 =>
          rw [List.cons_append, List.cons.injEq] at h4
          refine .inr ⟨u, t, ?_⟩
          rw [h2, h4.2]
theorem infix_flat {α : Type} {b : List Nat} {c : Nat} (hc : c ∉ b) (g : α → List Nat) : ∀ l : List α, b <:+: l.flatMap (fun t => g t ++ [c]) → b = [] ∨ ∃ t ∈ l, b <:+: g t
  | [], h => .inl (by simpa using h)
  | a :: l, h => by
    rw [List.flatMap_cons, List.append_assoc, List.singleton_append] at h
    rcases infix_sep hc h with h | h
    · exact .inr ⟨a, .head _, h⟩
    · rcases infix_flat hc g l h with h | ⟨t, ht, h⟩
      · exact .inl h
      · exact .inr ⟨t, .tail _ ht, h⟩

noncomputable def midL (i j k : Nat) : List Nat := (List.range (j + 1)).flatMap fun t => wl i t k ++ [46]
theorem mid_cps (i j k : Nat) : (nameMid i j k).cps.toList = midL i j k := by
  unfold nameMid midL
  rw [join_cps, List.flatMap_map]
  refine congrArg (fun g => List.flatMap g (List.range (j + 1))) (funext fun t => ?_)
  show (nameBit i k t).cps.toList = _
  unfold nameBit wl
  rw [cps_append, cps_append, cps_append, rep_one, rep_one, rep_one]
  simp only [List.append_assoc]
  rfl
theorem mem_wl {i j k c : Nat} (h : c ∈ wl i j k) : c = 97 ∨ c = 98 ∨ c = 99 := by
  unfold wl at h
  rcases List.mem_append.mp h with h | h
  · exact .inl (List.eq_of_mem_replicate h)
  · rcases List.mem_append.mp h with h | h
    · exact .inr (.inl (List.eq_of_mem_replicate h))
    · exact .inr (.inr (List.eq_of_mem_replicate h))
theorem mem_mid {i j k c : Nat} (h : c ∈ midL i j k) : c = 97 ∨ c = 98 ∨ c = 99 ∨ c = 46 := by
  unfold midL at h
  obtain ⟨t, _, h⟩ := List.mem_flatMap.mp h
  rcases List.mem_append.mp h with h | h
  · rcases mem_wl h with h | h | h
    · exact .inl h
    · exact .inr (.inl h)
    · exact .inr (.inr (.inl h))
  · exact .inr (.inr (.inr (List.mem_singleton.mp h)))
theorem up_cps {x : Str} (h : ∀ c ∈ x.cps.toList, c < 128) : (Txt.upper x).cps.toList = x.cps.toList.map up1 := by
  rw [upper_ascii h]
  exact Array.toList_map
theorem lo_cps {x : Str} (h : ∀ c ∈ x.cps.toList, c < 128) : (Txt.lower x).cps.toList = x.cps.toList.map lo1 := by
  rw [lower_ascii h]
  exact Array.toList_map
theorem map_same {f : Nat → Nat} {l : List Nat} (h : ∀ c ∈ l, f c = c) : l.map f = l := by
  rw [List.map_congr_left h, List.map_id']
theorem head_cps (i j k : Nat) : (headOf i j k).cps.toList = 42 :: (midL i j k).map up1 := by
  unfold headOf
  rw [cps_append, up_cps fun c hc => ?_, mid_cps]
  · rfl
  · rw [mid_cps] at hc
    rcases mem_mid hc with rfl | rfl | rfl | rfl <;> decide
theorem head_low (i j k : Nat) : (Txt.lower (headOf i j k)).cps.toList = 42 :: midL i j k := by
  rw [lo_cps fun c hc => ?_, head_cps, List.map_cons, List.map_map]
  · rw [map_same fun c hc => ?_]
    · rfl
    · rcases mem_mid hc with rfl | rfl | rfl | rfl <;> decide
  · rw [head_cps] at hc
    rcases List.mem_cons.mp hc with rfl | hc
    · decide
    · obtain ⟨d, hd, rfl⟩ := List.mem_map.mp hc
      rcases mem_mid hd with rfl | rfl | rfl | rfl <;> decide

/-! agents -/
theorem word_up (i j k : Nat) : (Txt.upper (strOf [i, j, k])).cps.toList = (wl i j k).map up1 := by
  rw [up_cps fun c hc => ?_, strOf_cps]
  rw [strOf_cps] at hc
  rcases mem_wl hc with rfl | rfl | rfl <;> decide
theorem low_word (i j k : Nat) : Txt.lower (strOf [i, j, k]) = strOf [i, j, k] := by
  refine str_ext ?_
  rw [lo_cps fun c hc => ?_, strOf_cps]
  · exact map_same fun c hc => by rcases mem_wl hc with rfl | rfl | rfl <;> decide
  · rw [strOf_cps] at hc
    rcases mem_wl hc with rfl | rfl | rfl <;> decide
theorem low_up (i j k : Nat) : Txt.lower (Txt.upper (strOf [i, j, k])) = strOf [i, j, k] := by
  refine str_ext ?_
  rw [lo_cps fun c hc => ?_, word_up, strOf_cps, List.map_map]
  · exact map_same fun c hc => by rcases mem_wl hc with rfl | rfl | rfl <;> decide
  · rw [word_up] at hc
    obtain ⟨d, hd, rfl⟩ := List.mem_map.mp hc
    rcases mem_wl hd with rfl | rfl | rfl <;> decide
theorem mem_agents {ws : List Str} {ag : Str} (h : ag ∈ agents ws) : ∃ b ∈ bord ws, ag = b ∨ ag = Txt.upper b := by
  unfold agents at h
  obtain ⟨p, hp, rfl⟩ := List.mem_map.mp h
  have hm := List.mem_zipIdx' hp
  have hb : p.1 ∈ bord ws := by rw [hm.2]; exact List.getElem_mem _
  refine ⟨p.1, hb, ?_⟩
  split
  · exact .inr rfl
  · exact .inl rfl
theorem agents_of {ws : List Str} {b : Str} (h : b ∈ bord ws) : ∃ ag ∈ agents ws, ag = b ∨ ag = Txt.upper b := by
  obtain ⟨i, hi, e⟩ := List.mem_iff_getElem.mp h
  have hm : (b, i) ∈ (bord ws).zipIdx := by
    rw [List.mem_zipIdx_iff_getElem?]
    show (bord ws)[i]? = some b
    rw [List.getElem?_eq_getElem hi, e]
  refine ⟨if i % 2 = 1 then Txt.upper b else b, List.mem_map.mpr ⟨(b, i), hm, rfl⟩, ?_⟩
  split
  · exact .inr rfl
  · exact .inl rfl
theorem agent_star {ns : List Int} {ag : Str} (h : ag ∈ agents (lawW ns)) : ag ≠ one 42 := by
  obtain ⟨b, hb, h⟩ := mem_agents h
  obtain ⟨i, j, k, rfl, _⟩ := mem_lawB.mp hb
  intro e
  have hm : (42 : Nat) ∈ ag.cps.toList := by rw [e]; exact .head _
  rcases h with rfl | rfl
  · rw [strOf_cps] at hm
    rcases mem_wl hm with h | h | h <;> exact absurd h (by decide)
  · rw [word_up] at hm
    obtain ⟨d, hd, e⟩ := List.mem_map.mp hm
    rcases mem_wl hd with rfl | rfl | rfl <;> exact absurd e (by decide)
theorem law_nostar (ns : List Int) : (agents (lawW ns)).contains (one 42) = false := by
  cases h : (agents (lawW ns)).contains (one 42) with
  | false => rfl
  | true => exact absurd rfl (agent_star (List.contains_iff_mem.mp h))
theorem agent_low {ns : List Int} {ag : Str} (h : ag ∈ agents (lawW ns)) : Txt.lower ag ∈ bord (lawW ns) := by
  obtain ⟨b, hb, h⟩ := mem_agents h
  obtain ⟨i, j, k, rfl, _⟩ := mem_lawB.mp hb
  rcases h with rfl | rfl
  · rw [low_word]; exact hb
  · rw [low_up]; exact hb
theorem law_agl (ns : List Int) : ∀ ag ∈ agents (lawW ns), ag.length ≤ 1000 := by
  intro ag h
  obtain ⟨b, hb, h⟩ := mem_agents h
  obtain ⟨i, j, k, rfl, _, e, he, a, x, y, rfl, hn⟩ := mem_lawB.mp hb
  have h9 := lawW_small he
  have hs : i + j + k = a + x + y + 1 := by
    rcases hn with h | h | h <;> simp only [List.cons.injEq, and_true] at h <;> omega
  have hl : ag.length = ag.cps.toList.length := Array.length_toList.symm
  rcases h with rfl | rfl
  · rw [hl, strOf_cps, wl_len]; omega
  · rw [hl, word_up, List.length_map, wl_len]; omega

/-! what the record tells -/
theorem told_iff {ns : List Int} (p : List Int) : lawTold ns p = true ↔ ∃ b ∈ bord (lawW ns), b.cps.toList <:+: 42 :: midL (toN p).1 (toN p).2.1 (toN p).2.2 := by
  unfold lawTold appl
  rw [List.any_eq_true]
  constructor
  · rintro ⟨ag, hm, h⟩
    rw [Bool.and_eq_true, inStr_iff, head_low] at h
    have hne : ag ≠ one 42 := by simpa using h.1
    have hag : ag ∈ agents (lawW ns) := by
      unfold lawRec at hm
      rcases List.mem_append.mp hm with hm | hm
      · rcases List.mem_append.mp hm with hm | hm
        · exact List.mem_of_mem_take hm
        · exact absurd (List.mem_singleton.mp hm) hne
      · exact List.mem_of_mem_drop hm
    exact ⟨_, agent_low hag, h.2⟩
  · rintro ⟨b, hb, h⟩
    obtain ⟨ag, hag, hab⟩ := agents_of hb
    obtain ⟨i, j, k, rfl, _⟩ := mem_lawB.mp hb
    refine ⟨ag, ?_, ?_⟩
    · unfold lawRec
      have := hag
      rw [← List.take_append_drop 1 (agents (lawW ns))] at this
      rcases List.mem_append.mp this with h | h
      · exact List.mem_append_left _ (List.mem_append_left _ h)
      · exact List.mem_append_right _ h
    · rw [Bool.and_eq_true, inStr_iff, head_low]
      refine ⟨by simpa using agent_star hag, ?_⟩
      have : Txt.lower ag = strOf [i, j, k] := by
        rcases hab with rfl | rfl
        · exact low_word i j k
        · exact low_up i j k
      rw [this]; exact h
theorem wl_infix {a b c i k : Nat} (h1 : a ≤ i) (h2 : c ≤ k) : wl a b c <:+: wl i b k := by
  refine ⟨List.replicate (i - a) 97, List.replicate (k - c) 99, ?_⟩
  unfold wl
  have e1 : List.replicate i 97 = List.replicate (i - a) 97 ++ List.replicate a 97 := by rw [List.replicate_append_replicate, Nat.sub_add_cancel h1]
  have e2 : List.replicate k 99 = List.replicate c 99 ++ List.replicate (k - c) 99 := by rw [List.replicate_append_replicate, Nat.add_sub_cancel' h2]
  rw [e1, e2]
  simp only [List.append_assoc]
theorem wl_mid (a b c i j k : Nat) : wl a b c <:+: 42 :: midL i j k ↔ a ≤ i ∧ b ≤ j ∧ c ≤ k := by
  constructor
  · intro h
    have h42 : (42 : Nat) ∉ wl a b c := fun hm => by rcases mem_wl hm with h | h | h <;> exact absurd h (by decide)
    have h46 : (46 : Nat) ∉ wl a b c := fun hm => by rcases mem_wl hm with h | h | h <;> exact absurd h (by decide)
    have hsmall : wl a b c = [] → a ≤ i ∧ b ≤ j ∧ c ≤ k := fun e => by
      have := congrArg List.length e
      rw [wl_len] at this
      simp at this
      omega
    rcases infix_sep (X := []) h42 h with h | h
    · exact hsmall (by simpa using h)
    · rcases infix_flat h46 (fun t => wl i t k) _ h with h | ⟨t, ht, h⟩
      · exact hsmall h
      · have ht' := List.mem_range.mp ht
        have hc : ∀ x, (wl a b c).count x ≤ (wl i t k).count x := fun x => h.sublist.count_le x
        have h1 := hc 97
        have h2 := hc 98
        have h3 := hc 99
        unfold wl at h1 h2 h3
        simp [List.count_append, List.count_replicate] at h1 h2 h3
        omega
  · rintro ⟨h1, h2, h3⟩
    have hr : b ∈ List.range (j + 1) := List.mem_range.mpr (by omega)
    obtain ⟨s, t, e⟩ := List.append_of_mem hr
    have : wl i b k <:+: midL i j k := by
      refine ⟨s.flatMap fun t => wl i t k ++ [46], [46] ++ t.flatMap fun t => wl i t k ++ [46], ?_⟩
      unfold midL
      rw [e, List.flatMap_append, List.flatMap_cons]
      simp only [List.append_assoc]
    exact ((wl_infix h1 h3).trans this).trans ⟨[42], [], by simp⟩
theorem told_eq {ns : List Int} (p : List Int) : lawTold ns p = !inD 3 (lawL ns) (el (toN p)) := by
  have key : lawTold ns p = true ↔ inD 3 (lawL ns) (el (toN p)) = false := by
    rw [told_iff, show el (toN p) = [(toN p).1, (toN p).2.1, (toN p).2.2] from rfl, ← border_iff]
    constructor
    · rintro ⟨x, hx, h⟩
      obtain ⟨a, b, c, rfl, _⟩ := mem_lawB.mp hx
      rw [strOf_cps, wl_mid] at h
      exact ⟨a, b, c, hx, h⟩
    · rintro ⟨a, b, c, hx, h⟩
      exact ⟨_, hx, by rw [strOf_cps, wl_mid]; exact h⟩
  cases hd : inD 3 (lawL ns) (el (toN p)) with
  | false => exact key.mpr hd
  | true =>
    cases ht : lawTold ns p with
    | false => rfl
    | true => rw [key.mp ht] at hd; cases hd
theorem law_same (ns : List Int) : (lawO ns).map (lawTold ns) = lawDue ns := by
  rw [law_due]
  exact List.map_congr_left fun p _ => told_eq p

/-! the name's first piece -/
theorem law_split (i j k : Nat) : (Txt.split (nameOf i j k) (one 47))[0]? = some (headOf i j k) := by
  have hpos := split_pos (nameOf i j k) (one 47)
  have hz : (Txt.split (nameOf i j k) (one 47))[0]? = some (Txt.split (nameOf i j k) (one 47))[0] := List.getElem?_eq_getElem hpos
  generalize (Txt.split (nameOf i j k) (one 47))[0] = z at hz
  rw [hz]
  have hat : ∀ x n, PySem.StrLaws.At x (one 47) x.length n ↔ x.cps.toList[n]? = some 47 := fun x n => PySem.StrLaws.subAt_one x 47 n
  have hname : (nameOf i j k).cps.toList = (headOf i j k).cps.toList ++ [47, 97, 97, 97, 47] := by
    unfold nameOf headOf
    rw [cps_append]
  have hno : (47 : Nat) ∉ (headOf i j k).cps.toList := by
    rw [head_cps]
    intro hm
    rcases List.mem_cons.mp hm with h | h
    · exact absurd h (by decide)
    · obtain ⟨d, hd, e⟩ := List.mem_map.mp h
      rcases mem_mid hd with rfl | rfl | rfl | rfl <;> exact absurd e (by decide)
  have hthere : (nameOf i j k).cps.toList[(headOf i j k).cps.toList.length]? = some 47 := by
    rw [hname, List.getElem?_append_right (Nat.le_refl _), Nat.sub_self]; rfl
  rcases split_head (nameOf i j k) (one 47) (by decide +kernel) z hz with ⟨_, h⟩ | ⟨n, rfl, h1, h2⟩
  · exact absurd ((hat _ _).mpr hthere) (h _)
  · rw [hat] at h1
    have hn : n = (headOf i j k).cps.toList.length := by
      rcases Nat.lt_trichotomy n (headOf i j k).cps.toList.length with h | h | h
      · rw [hname, List.getElem?_append_left h] at h1
        exact absurd (List.mem_of_getElem? h1) hno
      · exact h
      · exact absurd ((hat _ _).mpr hthere) (h2 _ h)
    refine congrArg some (str_ext ?_)
    unfold PySem.Builtin.Str.strSub
    show ((nameOf i j k).cps.extract 0 n).toList = _
    rw [Array.toList_extract, hname, hn]
    simp
theorem lawOk (ns : List Int) : LawOk ns where
  counts := law_counts ns
  twice := law_twice ns
  nostar := law_nostar ns
  steps := law_steps ns
  same := law_same ns
  small := law_small ns
  split := fun i j k _ _ _ => law_split i j k
  agl := law_agl ns
end Mine

namespace Mine

section
variable {prog : Program} {w : World} {H : Heap} {A : Around} {a : Act} {ρ : Rho} {O : List (Addr × OD)} {T : List (Value × D)} {mg mb : Str → Option Value}

theorem meth_applies {pl : Sem Bool} {ds : List D} {φ : FM} {v : Value} {s : Shared} {Q : Value × List Value → Shared → Prop} (X : (hd.heap_1 w.params).In s.heap) (hs : ∀ b o, φ b = some o → s.heap.get? b = some o) (r : Rd prog w φ v (.ent ds)) (hQ : Q (.ref 91, [v]) s) :
    wpAny (model prog w) A (getMethod v "applies_to" pl) Q (fun _ _ => False) s := by
  obtain ⟨ax, dx, g1, g2, g3, g4, t1, t2, t3, t4, u1, u2, u3, u4, n, rfl, e1, e2, r⟩ := r.inv
  exact method_fn X (inst_at (hs _ _ e1) (hs _ _ e2)) (by rfl) (by rfl) (by rfl) (by rfl) (by rfl) hQ
/-- a call of a class of the text, one argument -/
theorem Ev.callK {x : Str} {np pos : Pos} {e : Expr} {d1 d : D} {f : Addr} (W : Wo prog w H mg mb) (hx : a.env.kindOf x = some .globalImplicit) (he : nsIn (hd.heap_1 w.params) mainGlobals x = some (some (.ref f))) (hk : keepIn (hd.heap_1 w.params) (.ref f) = true)
    (y : Ev prog w H A a ρ O e d1) (hf : P1 prog w H A (fun v => call (.ref f) [v]) d1 d) (hd : (x == ("__debug__" : Str)) = false := by decide) (hs : starEach [e] a.env = (false, eval e a.env) :: starEach [] a.env := by rfl) (hp : (backTo pos (starEach [] a.env)).any (·.1) = false := by rfl) : Ev prog w H A a ρ O (.Call (.Name x np) [e] [] pos) d :=
  fun T => Tr.of fun s R K hR => by
    refine Call_Name rfl (nameG W K he hx ?_ hd)
    refine callWith_K (h₀ := s.heap) (K.inK W) hk ((EvL.cons y EvL.nil hs pos T).use K fun vs h2 tk2 q2 => ⟨q2.2.inK W, ?_⟩) hs hp
    exact (PL.of1 (f := fun vs => call (.ref f) vs) hf a ρ O T vs q2.1).use (s := { s with heap := h2, toks := tk2 }) q2.2 fun r h3 tk3 q3 => hR r h3 tk3 q3
theorem P2.neLI0 {ns ms : List Int} (hu : A.units + 64 < cLine) (h : ns = ms) : P2 prog w H A (compareOp .NotEq) (.list (ns.map .int)) (.list (ms.map .int)) (.bool false) := by
  have := P2.neLI (prog := prog) (w := w) (H := H) (A := A) (ns := ns) (ms := ms) hu
  rwa [decide_eq_true h] at this
theorem P2.neI0 {i j : Int} (h : i = j) : P2 prog w H A (compareOp .NotEq) (.int i) (.int j) (.bool false) := by
  have := P2.neI (prog := prog) (w := w) (H := H) (A := A) (i := i) (j := j)
  rwa [show (i != j) = false by rw [h]; simp] at this
theorem P2.isNot0 {b c : Bool} (h : b = c) : P2 prog w H A (compareOp .IsNot) (.bool b) (.bool c) (.bool false) := by
  have := P2.isNotB (prog := prog) (w := w) (H := H) (A := A) (b := b) (c := c)
  rwa [show (b != c) = false by rw [h]; simp] at this
theorem eq_ints (acc : List Int) (i : Int) : ∀ y ∈ acc.map D.int, EqD y (.int i) (unInt y == i) := by
  intro y hy
  obtain ⟨q, _, rfl⟩ := List.mem_map.mp hy
  exact EqD.int q i
noncomputable def pTest (hs : List Int) (p : Int × Nat) : Bool := !(((hs.take p.2).map D.int).any fun y => unInt y == p.1)
theorem pTest_eq (hs : List Int) (p : Int × Nat) : pTest hs p = !((hs.take p.2).any (· == p.1)) := by
  unfold pTest
  rw [List.any_map]; rfl
theorem pTest_first {hs : List Int} {p : Int × Nat} (h : pTest hs p = true) : ∀ m, m < p.2 → hs[m]? ≠ some p.1 := by
  intro m hm e
  rw [pTest_eq, Bool.not_eq_true', List.any_eq_false] at h
  refine h p.1 ?_ (by simp)
  exact List.mem_of_getElem? (i := m) (by rw [List.getElem?_take, if_pos hm]; exact e)
theorem mod2_small (n : Int) : -8 ≤ n.fmod 2 ∧ n.fmod 2 ≤ 8 := by
  have h1 := Int.fmod_lt_of_pos n (show (0 : Int) < 2 by decide)
  have h2 := Int.fmod_nonneg_of_pos n (show (0 : Int) < 2 by decide)
  omega
theorem nat8 {n : Nat} (h : n ≤ 7) : -8 ≤ (n : Int) ∧ (n : Int) ≤ 8 := by omega
theorem hs_len (ns : List Int) : (lawHs ns).length ≤ 7 := by
  unfold lawHs sortI
  rw [List.length_mergeSort, List.length_map]
  exact (lawL_pts ns).len
theorem agents_len (ns : List Int) : (agents (lawW ns)).length ≤ 2187 := by
  unfold agents bord
  rw [List.length_map, List.length_zipIdx]
  exact Nat.le_trans (bord1_len (lawW ns) (lawW ns).length) (Nat.mul_le_mul_left 3 (lawW_len ns))
theorem rec_len (ns : List Int) : (lawRec ns).length ≤ 2189 := by
  unfold lawRec
  rw [List.length_append, List.length_append]
  have h1 := List.length_take_le 1 (agents (lawW ns))
  have h2 : (List.drop 1 (agents (lawW ns))).length ≤ 2187 := by rw [List.length_drop]; exact Nat.le_trans (Nat.sub_le _ _) (agents_len ns)
  exact Nat.add_le_add (Nat.add_le_add h1 (Nat.le_refl 1)) h2
theorem way8 (ns : List Int) : -8 ≤ lawWay ns ∧ lawWay ns ≤ 8 := by
  rcases way_cases ns with h | h <;> rw [h] <;> decide
theorem way_ne0 (ns : List Int) : (some (lawWay ns) : Option Int) ≠ some 0 := by
  rcases way_cases ns with h | h <;> rw [h] <;> decide
theorem cs_ok (ns : List Int) : ∀ c ∈ lawCs ns, 0 ≤ c.1 ∧ c.1 < 3 := by
  intro c hc
  unfold lawCs at hc
  simp only [List.mem_cons, List.not_mem_nil, or_false] at hc
  rcases hc with rfl | rfl | rfl
  · exact ⟨by show (0 : Int) ≤ 2; decide, by show (2 : Int) < 3; decide⟩
  · exact ⟨by show (0 : Int) ≤ 1; decide, by show (1 : Int) < 3; decide⟩
  · exact ⟨by show (0 : Int) ≤ 0; decide, by show (0 : Int) < 3; decide⟩
theorem prods_len (ns : List Int) : (prods (lawW ns)).length ≤ 3645 := by
  unfold prods
  exact Nat.le_trans (prods1_len (lawW ns) (lawW ns).length) (Nat.mul_le_mul_left 5 (lawW_len ns))
theorem R_len (ns : List Int) : (lawR ns).length ≤ 3645 := by rw [show (lawR ns).length = (prods (lawW ns)).length from repAt_length _ (Nat.le_refl _)]; exact prods_len ns
theorem O_len (ns : List Int) : (lawO ns).length ≤ 3645 := by rw [lawO_len]; exact prods_len ns
theorem drop_len {α : Type} {l : List α} {n m : Nat} (h : l.length ≤ m) : (l.drop n).length ≤ m := by rw [List.length_drop]; exact Nat.le_trans (Nat.sub_le _ _) h
theorem pair_same (l : List (List Int)) : (l.map ptD).length = ((l.drop 1 ++ l.drop (l.length - 1)).map ptD).length := by
  rw [List.length_map, List.length_map, List.length_append, List.length_drop, List.length_drop]
  cases l with
  | nil => rfl
  | cons a l => rw [List.length_cons, Nat.add_sub_cancel, Nat.add_sub_cancel_left]
theorem pairs_len (ns : List Int) : (lawPairs ns).length ≤ 3645 := by
  unfold lawPairs
  rw [List.length_zip]
  exact Nat.le_trans (Nat.min_le_left _ _) (R_len ns)
theorem rec_short {ns : List Int} (K : LawOk ns) : ∀ ag ∈ lawRec ns, ag.length ≤ 100000 := by
  intro ag hag
  unfold lawRec at hag
  rcases List.mem_append.mp hag with h | h
  · rcases List.mem_append.mp h with h | h
    · exact le_of (K.agl ag (List.mem_of_mem_take h))
    · rw [List.mem_singleton.mp h]; show 1 ≤ 100000; decide
  · exact le_of (K.agl ag (List.mem_of_mem_drop h))
theorem head_small {i j k : Nat} (h1 : i ≤ 20) (h2 : j ≤ 20) (h3 : k ≤ 20) : (headOf i j k).length ≤ 3901 := by
  unfold headOf
  rw [app_len]
  exact Nat.add_le_add (Nat.le_refl 1) (Nat.le_trans Mine.upper_len (Nat.mul_le_mul_left 3 (mid_len h1 h2 h3)))
theorem name_small {i j k : Nat} (h1 : i ≤ 20) (h2 : j ≤ 20) (h3 : k ≤ 20) : (nameOf i j k).length ≤ 3906 := by
  unfold nameOf
  rw [app_len]
  exact Nat.add_le_add (head_small h1 h2 h3) (Nat.le_refl 5)
theorem toNat_le {i : Int} {m : Nat} (h : i ≤ m) : i.toNat ≤ m := Int.toNat_le.mpr h
theorem int_le {n m : Nat} {b : Int} (h : n ≤ m) (k : (m : Int) ≤ b := by decide) : ((n : Nat) : Int) ≤ b := Int.le_trans (Int.ofNat_le.mpr h) k

theorem law_run {v : Value} {φ : FM} {s : Shared} {E : Value → Shared → Prop} {Q : Value → Shared → Prop} {ns : List Int} (h63 : ns.length ≤ 63) (K : LawOk ns) (W : Wo prog w s.heap mg mb) (r : Room A 9)
    (hsub : ∀ b o, φ b = some o → s.heap.get? b = some o) (hv : Rd prog w φ v (.arg (ns.map .int)))
    (hQ : ∀ v φ' h' tk, Keep s.heap h' → Rd prog w φ' v (.bool true) → Q v { s with heap := h', toks := tk }) : wpAny (model prog w) A (call (.ref 166) [v]) Q E s := by
  have hPl := lawP_len ns
  have hLl : (lawL ns).length ≤ 7 := (lawL_pts ns).len
  have hHl := hs_len ns
  have hfl : (firsts (lawL ns)).length ≤ 3 := heads_len _
  refine PL.top (f := 166) (xs := ["script"]) (ds := [.arg (ns.map .int)]) (d := .bool true) (φ := φ) W r rfl hsub (fun p hp => by rw [show p = (v, .arg (ns.map .int)) from List.mem_singleton.mp hp]; exact hv) rfl rfl (by rfl) rfl rfl (bind1 fun _ => rfl) rfl (by decide) (by decide) (by decide) rfl rfl (fun A L Φ h₀ r => ?_) hQ
  -- total, way
  refine execs_next (ex_assign (d := .int ns.sum) (Ev.callB W rfl rfl rfl (by decide) (EvL.cons (Ev.name rfl) EvL.nil) (PL.of1 (P1.sumA r.hh))) (.inl rfl)) ?_
  refine execs_next (ex_assign (d := .int (lawWay ns)) (Ev.binop (Ev.binop Ev.int (Ev.binop (Ev.name rfl) Ev.int (P2.mod (by decide))) (P2.mul (smallOk (by decide) ?_))) Ev.int P2.sub) (.inl rfl)) ?_
  · exact mod2_small _
  -- points, tables, heads
  refine execs_next (ex_assign (d := ptsD (lawL ns)) (Ev.cast (Ev.callF W rfl rfl rfl rfl (EvL.cons (Ev.name rfl) (EvL.cons (Ev.cast (Ev.binop (Ev.binop (Ev.name rfl) Ev.int (P2.div (by decide) (by decide))) Ev.int (P2.mod (by decide))) (congrArg D.int (lawT_int ns).symm)) EvL.nil)) (C_points (lawT_lt ns) (le_of h63) W (r.less (by decide)))) (lawP_D ns)) (.inl rfl)) ?_
  refine execs_next (ex_assign (d := tabsD 2 (lawL ns)) (Ev.callF W rfl rfl rfl rfl (EvL.cons (Ev.name rfl) (EvL.cons (Ev.cast Ev.str (d' := .str (letS 3)) (by rfl)) EvL.nil)) (C_tables (n := 2) (by decide) (lawL_pts ns) W (r.less (by decide)) (fun A pts hp r => C_words W 2 (by decide) A pts hp r))) (stCell rfl rfl)) ?_
  refine execs_next (ex_assign (d := .list ((lawHs ns).map .int)) (Ev.callB W rfl rfl rfl (by decide) (EvL.cons (Ev.cast (Ev.listcompM (xs := lawL ns) (g := ptD) (fun _ => true) (fun p => .int (p.headD 0)) (EvIt.of (Ev.name rfl) (Itr.list r.hh)) (CompM.name rfl (fun C Φ h₀ => .inl rfl) fun p hpp C Φ h₀ O => Ev.pt0 rfl ?_) ?_) (?_ : _ = D.list (((lawL ns).map fun p => p.headD 0).map .int))) EvL.nil) (PL.of1 (P1.sortedL ?_))) (stCell rfl rfl)) ?_
  · intro e
    have := ((lawL_pts ns).all p hpp).1
    rw [e] at this; cases this
  · exact sl_of hLl
  · rw [List.filter_eq_self.mpr (fun _ _ => rfl), List.map_map]; rfl
  · exact len_map_lt hLl
  -- counts
  refine execs_next (ex_assign (d := .list ((lawCounts ns).map .int)) (Ev.cast (Ev.binop (Ev.listcompM (xs := (lawHs ns).zipIdx) (g := fun p => .tupg [.int (p.2 : Nat), .int p.1]) (pTest (lawHs ns)) (fun p => .int (p.2 : Nat)) (EvIt.cast (EvIt.enumerate r.hh W rfl rfl (Ev.name rfl)) (enumD_map D.int _)) (CompM.twoIf r.hh rfl rfl (fun C Φ h₀ => .inl rfl) (fun C Φ h₀ => .inl rfl) (fun p hp C Φ h₀ O => ?_) (fun p hp ht C Φ h₀ O => ?_)) ?_) (Ev.list (EvL.cons (Ev.callB W rfl rfl rfl (by decide) (EvL.cons (Ev.name rfl) EvL.nil) (PL.of1 (P1.len (len_map_lt hHl)))) EvL.nil) sz1) (P2.addL ?_)) ?_) (.inl rfl)) ?_
  · refine Tt.compare (b := pTest (lawHs ns) p) (Ev.name rfl) (Ev.cast (Ev.sub (Ev.name rfl) (Ev.slice EvP.none (EvP.some (Ev.name rfl)) EvP.none) HasItem.list (P2.sliceL (by decide) ?_)) (?_ : _ = D.list (((lawHs ns).take p.2).map .int))) (P2.notInL (fun y => unInt y == p.1) (eq_ints _ _) r.u2)
    · exact sl_map hHl
    · rw [pickL_map, pick_take]
  · have hpm := List.mem_zipIdx' hp
    exact Ev.index (Ev.name rfl) (Ev.name rfl) ((List.getElem?_eq_getElem hpm.1).trans (congrArg some hpm.2.symm)) (pTest_first ht) (le_of hHl)
  · rw [List.length_zipIdx]; exact sl_of hHl
  · exact sl_app (a := 7) (b := 1) (by rw [List.length_map]; exact Nat.le_trans (List.length_filter_le _ _) (by rw [List.length_zipIdx]; exact hHl)) (Nat.le_refl 1)
  · unfold lawCounts firstAt
    rw [List.map_append, List.map_map, List.length_map, show pTest (lawHs ns) = (fun p => !((lawHs ns).take p.2).any (· == p.1)) from funext (pTest_eq _)]
    rfl
  -- the calls
  refine execs_next (ex_if (b := false) (Tt.compare (Ev.cast (Ev.listcompM (xs := List.range ((firsts (lawL ns)).length + 1)) (g := fun i => .dict (tabAt (wordsS 2) (lawL ns) i)) (fun _ => true) (fun i => .int (psum (tabAt (wordsS 2) (lawL ns) i) (tabAt (wordsS 2) (lawL ns) i).length)) (EvIt.of (Ev.name rfl) (Itr.list r.hh)) (CompM.name rfl (fun C Φ h₀ => .inl rfl) fun i hi C Φ h₀ O => Ev.callF W rfl rfl rfl rfl (EvL.cons (Ev.name rfl) EvL.nil) (C_count W (r.less (by decide)))) ?_) (?_ : _ = D.list ((lawCalls ns).map .int))) (Ev.name rfl) (P2.neLI0 r.u64 K.counts)) (fun h => nomatch h) fun _ => execs_nil fun g k => ⟨rfl, k⟩) ?_
  · exact sl_range (Nat.succ_le_succ hfl)
  · rw [List.filter_eq_self.mpr (fun _ _ => rfl)]
    unfold lawCalls
    rw [List.map_map]; rfl
  have hlast : ((List.range ((firsts (lawL ns)).length + 1)).map fun i => D.dict (tabAt (wordsS 2) (lawL ns) i))[((List.range ((firsts (lawL ns)).length + 1)).map fun i => D.dict (tabAt (wordsS 2) (lawL ns) i)).length - 1]? = some (.dict (lawTab ns)) := by
    simp [lawTab, tab]
  have hlen1 : ((List.range ((firsts (lawL ns)).length + 1)).map fun i => D.dict (tabAt (wordsS 2) (lawL ns) i)).length ≤ sizeLine := by rw [List.length_map]; exact sl_range (Nat.succ_le_succ hfl)
  have htab : (lawTab ns).length ≤ 243 := tabS_len (by decide) (lawL ns) (Nat.le_refl _)
  refine execs_next (ex_if (b := false) (Tt.compare (Ev.callF W rfl rfl rfl rfl (EvL.cons (Ev.callF W rfl rfl rfl rfl (EvL.cons (Ev.sub (Ev.name rfl) (Ev.neg Ev.int) HasItem.list (P2.itemLast hlen1 hlast)) (EvL.cons (Ev.sub (Ev.name rfl) (Ev.neg Ev.int) HasItem.list (P2.itemLast hlen1 hlast)) EvL.nil)) (C_add W (r.less (by decide)) (sl_app htab htab))) EvL.nil) (C_count W (r.less (by decide)))) (Ev.binop Ev.int (Ev.callB W rfl rfl rfl (by decide) (EvL.cons (Ev.name rfl) EvL.nil) (PL.of1 (P1.len (len_map_lt hLl)))) (P2.mul (smallOk (by decide) ?_))) (P2.neI0 (by rw [K.twice, List.length_map]))) (fun h => nomatch h) fun _ => execs_nil fun g k => ⟨rfl, k⟩) ?_
  · rw [List.length_map]; exact nat8 hLl
  -- words
  have hnd := tabS_nodup (n := 2) (by decide) (lawL ns)
  have Tb := tabOk (wf := wordsS 2) (pts := lawL ns) (fun v _ => hnd v) _ (Nat.le_refl (firsts (lawL ns)).length)
  have hsm := tab_small (pts := lawL ns) hnd (Nat.le_refl _)
  have hky := tabS_key (n := 2) (pts := lawL ns) (by decide) (Nat.le_refl _)
  have hW := lawW_len ns
  have hws := lawW_short ns
  have hrows : (rows (fun i => ((lawTab ns)[i]?).elim [] fun p => (List.range p.2.toNat).map fun j => D.int (j : Nat)) (fun i j => ((lawTab ns)[i]?).elim .none fun p => D.str (extS 2 j p.1)) ((lawTab ns).map fun p => D.str p.1).length) = (lawW ns).map .str := by
    rw [List.length_map, rows_words]; rfl
  refine execs_next (P' := St prog w s.heap _ _ _ _) (Tr.post (ex_assign_comp2 (es := (lawTab ns).map fun p => .str p.1) (es1 := fun i => ((lawTab ns)[i]?).elim [] fun p => (List.range p.2.toNat).map fun j => D.int (j : Nat)) (f := fun i j => ((lawTab ns)[i]?).elim .none fun p => D.str (extS 2 j p.1)) (EvIt.of (Ev.sub (Ev.name rfl) (Ev.neg Ev.int) HasItem.list (P2.itemLast hlen1 hlast)) (Itr.dict r.hh)) ⟨fun i d hd => ?_⟩ ?_ (.inl rfl)) (fun f h k => hrows ▸ k)) ?_
  · rw [List.getElem?_map] at hd
    obtain ⟨p, hpx, rfl⟩ := Option.map_eq_some_iff.mp hd
    have hpm := List.mem_of_getElem? hpx
    have hp3 := hsm p hpm
    have hpk := hky p hpm
    refine ⟨upd (capRho _ _ _) "word" (.val (.str p.1)), fun z b hz => ?_, fun C Φ h₀ => ⟨Asg.name (.inl rfl), fun O => ?_⟩, fun j d1 hd1 => ?_⟩
    · unfold upd
      by_cases h : z = "word"
      · subst h; cases hz
      · rw [if_neg h]; exact hz
    · rw [hpx, Option.elim_some]
      have hc : p.2 = ((p.2.toNat : Nat) : Int) := (Int.toNat_of_nonneg (Int.le_trans (by decide) hp3.1)).symm
      refine EvIt.of (d := .range 0 ((p.2.toNat : Nat) : Int)) (Ev.callT W rfl rfl rfl (by decide) (EvL.cons (Ev.sub (d := .int p.2) (Ev.sub (Ev.name rfl) (Ev.neg Ev.int) HasItem.list (P2.itemLast hlen1 hlast)) (Ev.name rfl) HasItem.dict (P2.itemD (tab_find Tb.nodup hpm))) EvL.nil) (hc ▸ PL.of1 P1.range)) (Itr.range r.hh (int_lt (toNat_le hp3.2)))
    · rw [hpx, Option.elim_some] at hd1
      rw [List.getElem?_map] at hd1
      obtain ⟨t, ht, rfl⟩ := Option.map_eq_some_iff.mp hd1
      have hlt := (List.getElem?_eq_some_iff.mp ht).1
      rw [List.length_range] at hlt
      rw [List.getElem?_range hlt] at ht
      cases ht
      refine ⟨upd (upd (capRho _ _ _) "word" (.val (.str p.1))) "times" (.val (.int (j : Nat))), fun z b hz => ?_, fun C Φ h₀ => ⟨Asg.name (.inl rfl), fun O => ?_⟩⟩
      · by_cases h : z = "times"
        · subst h; cases hz
        · unfold upd
          rw [if_neg h]; exact hz
      · simp only [hpx, Option.elim_some]
        have hrep : (rep (one 97) j).length = j := by
          have := congrArg List.length (rep_one 97 j)
          rw [List.length_replicate] at this
          exact this
        have hj3 : j ≤ 3 := Nat.le_of_lt (Nat.lt_of_lt_of_le hlt (toNat_le hp3.2))
        refine Ev.binop (Ev.binop (d := .str (rep (one 97) j)) (Ev.cast Ev.str (d' := .str (one 97)) (by rfl)) (Ev.name rfl) (P2.mulS (nat0 j) (int_le hj3) (by show 1 ≤ 1000; decide))) (Ev.name rfl) (P2.addS ?_)
        rw [hrep]; exact Nat.le_trans (Nat.add_le_add hj3 hpk) (by decide)
  · rw [hrows]; exact sl_map hW
  -- agents, record
  have hal := agents_len ns
  refine execs_next (ex_assign (d := .list ((agents (lawW ns)).map .str)) (Ev.callF W rfl rfl rfl rfl (EvL.cons (Ev.name rfl) EvL.nil) (C_agents (le_of hW) (fun x hx => le_of (hws x hx)) W (r.less (by decide)))) (.inl rfl)) ?_
  have e1 : pickL ((agents (lawW ns)).map D.str) none (some 1) none = ((agents (lawW ns)).take 1).map .str := by rw [pickL_map, show (1 : Int) = ((1 : Nat) : Int) from rfl, pick_take]
  have e2 : pickL ((agents (lawW ns)).map D.str) (some 1) none none = ((agents (lawW ns)).drop 1).map .str := by rw [pickL_map, show (1 : Int) = ((1 : Nat) : Int) from rfl, pick_drop]
  refine execs_next (ex_assign (d := .ent ((lawRec ns).map .str)) (Ev.callF W rfl rfl rfl rfl (EvL.cons (Ev.cast (Ev.binop (Ev.binop (Ev.sub (Ev.name rfl) (Ev.slice EvP.none (EvP.some Ev.int) EvP.none) HasItem.list (P2.sliceL (by decide) ?_)) (Ev.list (ds := [.str (one 42)]) (EvL.cons (Ev.cast Ev.str (by rfl)) EvL.nil) sz1) (P2.addL ?_)) (Ev.sub (Ev.name rfl) (Ev.slice (EvP.some Ev.int) EvP.none EvP.none) HasItem.list (P2.sliceL (by decide) ?_)) (P2.addL ?_)) (?_ : _ = D.list ((lawRec ns).map .str))) EvL.nil) (C_record (le_of (rec_len ns)) W (r.less (by decide)))) (stCell rfl rfl)) ?_
  · exact sl_map hal
  · rw [e1]; exact sl_app (a := 1) (b := 1) (len_map_le (List.length_take_le 1 _)) (Nat.le_refl 1)
  · exact sl_map hal
  · rw [e1, e2]; exact sl_app (a := 2) (b := 2187) (by rw [List.length_append]; exact Nat.add_le_add (len_map_le (b := 1) (List.length_take_le 1 _)) (Nat.le_refl 1)) (len_map_le (drop_len hal))
  · rw [e1, e2]
    unfold lawRec
    rw [List.map_append, List.map_append]; rfl
  have hstar : (lawRec ns).contains (one 42) = true := by
    rw [List.contains_iff_mem]
    unfold lawRec
    exact List.mem_append_left _ (List.mem_append_right _ (.head _))
  refine execs_next (ex_if (b := false) (Tt.or2 (b := false) (c := false) (Tt.compare (Ev.methI (pl := _) W (Ev.name rfl) (f := 91) (fun φ v s Q X hs hr hQ => meth_applies X hs hr hQ) (by rfl) (EvL.cons Ev.noneC EvL.nil) (C_appNone W (r.less (by decide)))) Ev.bool (P2.isNot0 hstar)) (fun _ => Tt.compare (Ev.methI (pl := _) W (Ev.callF W rfl rfl rfl rfl (EvL.cons (Ev.name rfl) EvL.nil) (C_record (le_of hal) W (r.less (by decide)))) (f := 91) (fun φ v s Q X hs hr hQ => meth_applies X hs hr hQ) (by rfl) (EvL.cons Ev.noneC EvL.nil) (C_appNone W (r.less (by decide)))) Ev.bool (P2.isNot0 K.nostar))) (fun h => nomatch h) fun _ => execs_nil fun g k => ⟨rfl, k⟩) ?_
  -- keys, report, pairs
  have hw8 := way8 ns
  have hc := cs_ok ns
  refine execs_next (ex_assign (d := .keys ((lawCs ns).map keyD)) (Ev.callK W rfl rfl (by rfl) (Ev.list (ds := (lawCs ns).map keyD) (EvL.cons (Ev.tuple (ds := [.int 2, .int (3 * lawWay ns)]) (EvL.cons Ev.int (EvL.cons (Ev.binop Ev.int (Ev.name rfl) (P2.mul (smallOk (by decide) hw8))) EvL.nil)) sz2) (EvL.cons (Ev.tuple (ds := [.int 1, .int (2 * lawWay ns)]) (EvL.cons Ev.int (EvL.cons (Ev.binop Ev.int (Ev.name rfl) (P2.mul (smallOk (by decide) hw8))) EvL.nil)) sz2) (EvL.cons (Ev.tuple (ds := [.int 0, .int (lawWay ns)]) (EvL.cons Ev.int (EvL.cons (Ev.name rfl) EvL.nil)) sz2) EvL.nil))) sz3) (P1.newKeys W r)) (stCell rfl rfl)) ?_
  have hprl := prods_len ns
  have hRl := R_len ns
  have hR3 : ∀ p ∈ lawR ns, p.length = 3 := fun p hp => (K.small p ((mem_lawR ns p).mp hp)).1
  refine execs_next (ex_assign (d := ptsD (lawR ns)) (Ev.callF W rfl rfl rfl rfl (EvL.cons (Ev.callF W rfl rfl rfl rfl (EvL.cons (Ev.name rfl) EvL.nil) (C_products (le_of hW) W (r.less (by decide)))) (EvL.cons (Ev.name rfl) EvL.nil)) (C_report hc (fun p hp => (K.small p hp).1) (le_of hprl) W (r.less (by decide)))) (.inl rfl)) ?_
  have e3 : pickL ((lawR ns).map ptD) (some 1) none none = ((lawR ns).drop 1).map ptD := by rw [pickL_map, show (1 : Int) = ((1 : Nat) : Int) from rfl, pick_drop]
  have e4 : pickL ((lawR ns).map ptD) (some (-1)) none none = ((lawR ns).drop ((lawR ns).length - 1)).map ptD := by rw [pickL_map, pick_last]
  have hpl := pairs_len ns
  refine execs_next (ex_assign (d := .list ((lawPairs ns).map fun p => .tup [ptD p.1, ptD p.2])) (Ev.cast (Ev.listZip (ds := (lawR ns).map ptD) (es := ((lawR ns).drop 1 ++ (lawR ns).drop ((lawR ns).length - 1)).map ptD) r.hh W rfl rfl rfl rfl ?_ ?_ (Ev.name rfl) (Ev.cast (Ev.binop (Ev.sub (Ev.name rfl) (Ev.slice (EvP.some Ev.int) EvP.none EvP.none) HasItem.list (P2.sliceL (by decide) ?_)) (Ev.sub (Ev.name rfl) (Ev.slice (EvP.some (Ev.neg Ev.int)) EvP.none EvP.none) HasItem.list (P2.sliceL (by decide) ?_)) (P2.addL ?_)) ?_)) (congrArg D.list (pairD_map ptD ptD (lawR ns) _))) (.inl rfl)) ?_
  · exact pair_same _
  · exact len_map_le hRl
  · exact sl_map hRl
  · exact sl_map hRl
  · rw [e3, e4]; exact sl_app (a := 3645) (b := 3645) (len_map_le (drop_len hRl)) (len_map_le (drop_len hRl))
  · rw [e3, e4, List.map_append]
  have hpm : ∀ p ∈ lawPairs ns, p.1.length = 3 ∧ p.2.length = 3 := by
    intro p hp
    have h1 := List.of_mem_zip hp
    refine ⟨hR3 _ h1.1, ?_⟩
    rcases List.mem_append.mp h1.2 with h | h
    · exact hR3 _ (List.mem_of_mem_drop h)
    · exact hR3 _ (List.mem_of_mem_drop h)
  refine execs_next (ex_if (b := false) (Tt.compare (Ev.cast (Ev.listcompM (xs := lawPairs ns) (g := fun p => .tup [ptD p.1, ptD p.2]) (fun _ => true) (fun p => .int (cmpOf (lawCs ns) p.1 p.2)) (EvIt.of (Ev.name rfl) (Itr.list r.hh)) (CompM.pair r.hh rfl rfl (fun C Φ h₀ => .inl rfl) (fun C Φ h₀ => .inl rfl) fun p hp C Φ h₀ O => Ev.methI (pl := _) W (Ev.name rfl) (f := 42) (fun φ v s Q X hs hr hQ => meth_compare X hs hr hQ) (by rfl) (EvL.cons (Ev.name rfl) (EvL.cons (Ev.name rfl) EvL.nil)) (C_compare hc (hpm p hp).1 (hpm p hp).2 W (r.less (by decide)))) (sl_of hpl)) (?_ : _ = D.list (((lawPairs ns).map fun p => cmpOf (lawCs ns) p.1 p.2).map .int)))
    (Ev.cast (Ev.listcompM (xs := lawPairs ns) (g := fun p => .tup [ptD p.1, ptD p.2]) (fun _ => true) (fun p => .int (stepOf p.1 p.2)) (EvIt.of (Ev.name rfl) (Itr.list r.hh)) (CompM.pair r.hh rfl rfl (fun C Φ h₀ => .inl rfl) (fun C Φ h₀ => .inl rfl) fun p hp C Φ h₀ O => Ev.callF W rfl rfl rfl rfl (EvL.cons (Ev.name rfl) (EvL.cons (Ev.name rfl) EvL.nil)) (C_step (hpm p hp).1 (hpm p hp).2 W (r.less (by decide)))) (sl_of hpl)) (?_ : _ = D.list (((lawPairs ns).map fun p => stepOf p.1 p.2).map .int))) (P2.neLI0 r.u64 K.steps)) (fun h => nomatch h) fun _ => execs_nil fun g k => ⟨rfl, k⟩) ?_
  · rw [List.filter_eq_self.mpr (fun _ _ => rfl), List.map_map]; rfl
  · rw [List.filter_eq_self.mpr (fun _ _ => rfl), List.map_map]; rfl
  -- told, due
  have hOl := O_len ns
  have hOs : ∀ p ∈ lawO ns, p.length = 3 ∧ ∀ x ∈ p, 0 ≤ x ∧ x ≤ 20 := fun p hp => K.small p ((mem_lawO ns p).mp hp)
  have eO : pickL ((lawR ns).map ptD) none none (some (lawWay ns)) = (lawO ns).map ptD := by rw [pickL_map]; rfl
  have hne0 := way_ne0 ns
  have hRD : ((lawR ns).map ptD).length ≤ sizeLine := sl_map hRl
  refine execs_next (ex_assign (d := .list (((lawO ns).map (lawTold ns)).map .bool)) (Ev.cast (Ev.listcompM (xs := lawO ns) (g := ptD) (fun _ => true) (fun p => .bool (lawTold ns p)) (EvIt.of (Ev.cast (Ev.sub (Ev.name rfl) (Ev.slice EvP.none EvP.none (EvP.some (Ev.name rfl))) HasItem.list (P2.sliceL hne0 hRD)) (congrArg D.list eO)) (Itr.list r.hh)) (CompM.name rfl (fun C Φ h₀ => .inl rfl) fun p hp C Φ h₀ O => ?_) (sl_of hOl)) ?_) (stCell rfl rfl)) ?_
  · obtain ⟨en, h1, h2, h3⟩ := n3_of (hOs p hp).1 (hOs p hp).2
    have hsp := K.split _ _ _ h1 h2 h3
    exact Ev.methI (pl := _) W (Ev.name rfl) (f := 91) (fun φ v s Q X hs hr hQ => meth_applies X hs hr hQ) (by rfl) (EvL.cons (Ev.callF W rfl rfl rfl rfl (EvL.cons (Ev.cast (Ev.name rfl) en) EvL.nil) (C_name h1 h2 h3 W (r.less (by decide)))) EvL.nil) (C_appStr (le_of (name_small h1 h2 h3)) hsp (le_of (head_small h1 h2 h3)) (rec_short K) W (r.less (by decide)))
  · rw [List.filter_eq_self.mpr (fun _ _ => rfl), List.map_map]; rfl
  have eN : (lawO ns).map ptD = ((lawO ns).map toN).map n3D := by
    rw [List.map_map]
    exact List.map_congr_left fun p hp => (n3_of (hOs p hp).1 (hOs p hp).2).1
  refine execs_next (ex_assign (d := .list ((lawDue ns).map .bool)) (Ev.callF W rfl rfl rfl rfl (EvL.cons (Ev.cast (Ev.sub (Ev.name rfl) (Ev.slice EvP.none EvP.none (EvP.some (Ev.name rfl))) HasItem.list (P2.sliceL hne0 hRD)) (congrArg D.list (eO.trans eN))) (EvL.cons (Ev.cast (Ev.name rfl) (lawP_D ns).symm) EvL.nil)) (C_leaning (lawP_three ns) hPl ?_ ?_ W (r.less (by decide)))) (stCell rfl rfl)) ?_
  · intro t ht
    obtain ⟨p, hp, rfl⟩ := List.mem_map.mp ht
    exact (n3_of (hOs p hp).1 (hOs p hp).2).2
  · exact len_map_le hOl
  have hDl : (lawDue ns).length ≤ 3645 := by rw [← K.same, List.length_map]; exact hOl
  rw [K.same]
  refine execs_ret (ex_return (Ev.cast (Ev.compare (Ev.cast (Ev.listcompM (xs := List.range (lawDue ns).length) (g := fun k => .int (k : Nat)) (fun _ => false) (fun k => .int (k : Nat)) (EvIt.of (d := .range 0 (((lawDue ns).length : Nat) : Int)) (Ev.callT W rfl rfl rfl (by decide) (EvL.cons (Ev.cast (Ev.callB W rfl rfl rfl (by decide) (EvL.cons (Ev.name rfl) EvL.nil) (PL.of1 (P1.len (len_map_lt hDl)))) (?_ : _ = D.int (((lawDue ns).length : Nat) : Int))) EvL.nil) (PL.of1 P1.range)) (Itr.range r.hh (int_lt hDl))) (CompM.name1 rfl (fun C Φ h₀ => .inl rfl) (fun k hk C Φ h₀ O => ?_) (fun k hk h => nomatch h)) ?_) (?_ : _ = D.list (([] : List Int).map .int))) (Ev.cast (Ev.list EvL.nil) (?_ : _ = D.list (([] : List Int).map .int))) (P2.eqLI r.u64)) ?_))
  · rw [List.length_map]
  · have hk' := List.mem_range.mp hk
    have hb : ((lawDue ns).map D.bool)[((k : Nat) : Int).toNat]? = some (.bool (lawDue ns)[k]) := by
      rw [Int.toNat_natCast, List.getElem?_map, List.getElem?_eq_getElem hk']; rfl
    exact Tt.compare (Ev.sub (d := .bool (lawDue ns)[k]) (Ev.name rfl) (Ev.name rfl) HasItem.list (P2.itemL (nat0 k) (nat63 (Nat.le_trans (Nat.le_of_lt hk') hDl)) hb)) (Ev.sub (d := .bool (lawDue ns)[k]) (Ev.name rfl) (Ev.name rfl) HasItem.list (P2.itemL (nat0 k) (nat63 (Nat.le_trans (Nat.le_of_lt hk') hDl)) hb)) (P2.isNot0 rfl)
  · exact sl_range hDl
  · rw [List.filter_eq_nil_iff.mpr (fun _ _ => by simp)]; rfl
  · rfl
  · rfl
end
end Mine

theorem PySem.Challenge.cw_st0006_01_holds : PySem.Challenge.rw_st0006_01.Holds := by
  w_on
  refine holds_law Mine.wellSaid fun said => ?_
  refine holds_open (q := Mine.view) (loose := []) (Xt := Mine.goodTop) (XP := XL Mine.view []) (Yf := Hook.obs Mine.hook) (Ya := Hook.val Mine.hook) (YP := Hook.says Mine.hook) (N := 2138) Mine.left (Hook.of Mine.hook) (Hook.keeps Mine.hook) (fun s e => xl_of s (Bool.and_eq_true_iff.mp e).1) XL.keeps (by rfl) (by rfl) (by rfl) (fun s e => recFacts_of (Bool.and_eq_true_iff.mp e).2) (by rfl) said (by decide +kernel) ⟨rfl, rfl, rfl, rfl, rfl, by decide +kernel⟩ ?hw ?hc
  case hw => w_witness2
  case hc =>
    k_fill
    intro w s₀ s₁ mg mb G Y fa o pm cd doc dV kV ho hd' hcd hD hmg hg args vals as hpre hlay hrd hwl hlo
    have KX := kIn_of Y
    refine Ground.open G ?_
    intro T B D TE TW
    have W : Mine.Wo Challenge.rw_st0006_01.row.prog w s₁.heap mg mb := ⟨KX, T.g, T.b, T.builtins, T.nolimit⟩
    have h166 : mg "law" = some (.ref 166) := mg_of W.X W.g (by rfl)
    have hfa : fa = 166 := by
      have e : mg "law" = some (.ref fa) := hmg
      rw [h166] at e
      exact (Value.ref.inj (Option.some.inj e)).symm
    subst hfa
    clear hd' hcd hD hmg ho
    wrow_args hpre hlay hrd hwl hlo
    rename_i ns _ _ _ _ _ _ _ l vs _ hL _ _ _ hI _ hmost _
    have h63 : ns.length ≤ 63 := by omega
    have r : Mine.Room callerA 9 := ⟨rfl, by decide, by decide⟩
    obtain ⟨ol, hol, hc, n, hd⟩ := id hL
    show wpAny _ callerA (call (.ref 166) [.ref l]) _ _ s₁
    refine Mine.law_run (φ := fun b => if b = l then some ol else none) h63 (Mine.lawOk ns) W r (fun b o e => ?_) (.arg (if_pos rfl) hc hd (Mine.IntsAre.rd hI)) (fun v φ' h' tk hk hr => ?_)
    · have e' : (if b = l then some ol else none) = some o := e
      by_cases hb : b = l
      · rw [if_pos hb] at e'; cases e'; rw [hb]; exact hol
      · rw [if_neg hb] at e'; cases e'
    · cases hr
      exact ⟨.inl ⟨_, .bool true, [], rfl, fun _ => rfl, .bool _, by wrow_post, fun _ => ⟨List.nodup_nil, fun _ h => nomatch h⟩⟩, .of_keep hk, rfl, .of_eq hg⟩
