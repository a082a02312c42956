import PyProof.Rows.All
import Wide.All
import OpenK.AllK
import Wide.FinOn
import PySem.Challenge.RW_wn0101_01
set_option Elab.async false
namespace Mine
local macro_rules | `(tactic| walk_at $s:str) => `(tactic| k_extra $s)
section
open PySem PySem.W PyProof.Rows
set_option Elab.async false
set_option maxRecDepth 100000
set_option maxHeartbeats 8000000
open_top hd for PySem.Challenge.rw_wn0101_01
end
section
open PySem PySem.W PyProof.Rows PySem.Calls
set_option Elab.async false
set_option maxRecDepth 100000

noncomputable abbrev AA (dp un : Nat) (fr : Option (List Env)) (gd : Option (List Code)) : Around := { handled := none, depth := dp, frames := fr, guards := gd, units := un }

theorem enter {w : World} {A : Around} {Q E : Value → Shared → Prop} {s : Shared} {p : Program} {loose : List Str} {mean : ExcName → Option Value} {mg mb : Str → Option Value} {K : Frag}
    {name qual : Str} {params : Arguments} {body : List Stmt} {scope : Scope} {dV kV doc pm cdv ct oc : Value} {an od : Option Addr} {osl : Array (Option Value)} {f : Addr} {pos : List Value} {kw : List (Str × Value)} {binds : List (Str × Value)}
    (X : K.In s.heap) (T : Top p loose mean mg mb s.heap)
    (ho : K.lookup f = some ⟨oc, od, .func (fnOf name qual params body scope dV kV doc pm an cdv ct), osl⟩)
    (hcd : codeIn K cdv qual = true) (hroom : A.depth < recursionLimit)
    (hbind : BindsTo s (fnOf name qual params body scope dV kV doc pm an cdv ct) ⟨pos, kw⟩ binds) (hloc : ∀ y ∈ binds, scope.names.lookup y.1 = some .local)
    (h : ∀ L h₁, Fr s.heap L h₁ (fun y => binds.reverse.lookup y) →
      wpAny (model PySem.Challenge.rw_wn0101_01.row.prog w) (A.deeper (envOf qual scope L f cdv)) (execs body (envOf qual scope L f cdv))
        (fun fl s' => Q (match fl with | .ret v => v | _ => .none) s') (fun _ _ => False)
        { s with heap := h₁, toks := s.toks + binds.length })
    (hco : scope.isCoroutine = false) (hgen : scope.isGenerator = false) (hk : scope.kind = .function)
    (hcell : ∀ x ∈ scope.names, x.2 ≠ .cell) :
    wpAny (model PySem.Challenge.rw_wn0101_01.row.prog w) A (call (.ref f) pos kw) Q E s := by
  refine wpAny_call (codeAny_call_def (fd := fnOf name qual params body scope dV kV doc pm an cdv ct) (body := body) (binds := binds) hroom (X _ _ ho) rfl T.nolimit (codeRec_of X hcd) rfl hbind hcell hloc (fun h₁ hns hk₁ => ?_) hco hgen hk)
  exact wpAny_mono (h _ h₁ ⟨hns, hk₁, Nat.le_refl _⟩) (fun _ _ y => y) fun _ _ y => y.elim
end
section
open PySem PySem.W PyProof.Rows PySem.Calls
set_option Elab.async false
set_option maxRecDepth 100000
set_option maxHeartbeats 2000000
set_option pp.deepTerms false
set_option pp.deepTerms.threshold 4
set_option pp.proofs false

noncomputable def apw : Nat → Nat → Array UInt8
  | 0, _ => #[]
  | f + 1, n => if n = 0 then #[] else apw f (n / 16) ++ #[UInt8.ofNat (65 + n % 16)]

theorem ap_start (n : Int) (h : -16777216 < n ∧ n < 16777216) : 0 ≤ (if n < 0 then -n else n) ∧ (if n < 0 then -n else n) < 16777216 ∧ apw 24 (if n < 0 then -n else n).toNat ++ #[] = apw 24 n.natAbs := by
  have key : (if n < 0 then -n else n) = (n.natAbs : Int) := by
    split
    · exact (Int.ofNat_natAbs_of_nonpos (Int.le_of_lt (by assumption))).symm
    · exact (Int.natAbs_of_nonneg (Int.not_lt.mp (by assumption))).symm
  rw [key]
  exact ⟨Int.natCast_nonneg _, by (first | (law_clear; lia) | omega), Array.append_empty⟩

theorem apw_size (f n : Nat) : (apw f n).size ≤ f := by
  induction f generalizing n with
  | zero => simp [apw]
  | succ f ih =>
    unfold apw
    split
    · simp
    · have := ih (n / 16)
      simp only [Array.size_append, List.size_toArray, List.length_singleton]
      (first | (law_clear; lia) | omega)
theorem apw_more (f n : Nat) (h : n < 16 ^ f) : apw (f + 1) n = apw f n := by
  induction f generalizing n with
  | zero =>
    have : n = 0 := by simpa using h
    subst this
    rfl
  | succ f ih =>
    have e : ∀ g, apw (g + 1) n = if n = 0 then #[] else apw g (n / 16) ++ #[UInt8.ofNat (65 + n % 16)] := fun g => rfl
    rw [e, e]
    split
    · rfl
    · rw [ih (n / 16) (by rw [Nat.pow_succ] at h; (first | (law_clear; lia) | omega))]
theorem ap_pick : ∀ d : Nat, d < 16 → KBy.picked [65, 66, 67, 68, 69, 70, 71, 72, 73, 74, 75, 76, 77, 78, 79, 80].toArray (some (d : Int)) (some ((d : Int) + 1)) = #[UInt8.ofNat (65 + d)] := by decide +kernel
theorem ap_turn {a : Int} {v W : Array UInt8} (h0 : 0 ≤ a) (h1 : a < 16777216) (h2 : apw 24 a.toNat ++ v = W) (hne : a ≠ 0) :
    0 ≤ a.fdiv 16 ∧ a.fdiv 16 < 16777216 ∧ apw 24 (a.fdiv 16).toNat ++ (KBy.picked [65, 66, 67, 68, 69, 70, 71, 72, 73, 74, 75, 76, 77, 78, 79, 80].toArray (some (a.fmod 16)) (some (a.fmod 16 + 1)) ++ v) = W := by
  obtain ⟨k, rfl⟩ := Int.eq_ofNat_of_zero_le h0
  have e1 : ((k : Int)).fdiv 16 = ((k / 16 : Nat) : Int) := by rw [Int.fdiv_eq_ediv_of_nonneg _ (by decide)]; rfl
  have e2 : ((k : Int)).fmod 16 = ((k % 16 : Nat) : Int) := by rw [Int.fmod_eq_emod_of_nonneg _ (by decide)]; rfl
  rw [e1, e2, ap_pick _ (Nat.mod_lt _ (by decide))]
  have hk : k < 16777216 := Int.ofNat_lt.mp h1
  have hk0 : k ≠ 0 := fun q => hne (congrArg Int.ofNat q)
  have hkd : k / 16 < 16777216 := Nat.lt_of_le_of_lt (Nat.div_le_self _ _) hk
  refine ⟨Int.natCast_nonneg _, Int.ofNat_lt.mpr hkd, ?_⟩
  rw [← h2, ← Array.append_assoc]
  congr 1
  simp only [Int.toNat_natCast]
  have e3 : apw 24 k = apw 23 (k / 16) ++ #[UInt8.ofNat (65 + k % 16)] := by
    show (if k = 0 then #[] else apw 23 (k / 16) ++ #[UInt8.ofNat (65 + k % 16)]) = _
    rw [if_neg hk0]
  rw [e3, apw_more 23 (k / 16) (Nat.lt_of_lt_of_le hkd (by decide))]
theorem ap_fall {a : Int} (h0 : 0 ≤ a) (hne : a ≠ 0) : (a.fdiv 16).toNat < a.toNat := by
  obtain ⟨k, rfl⟩ := Int.eq_ofNat_of_zero_le h0
  rw [Int.fdiv_eq_ediv_of_nonneg _ (by decide)]
  exact Nat.div_lt_self (Nat.pos_of_ne_zero fun q => hne (congrArg Int.ofNat q)) (by decide : 1 < 16)
theorem ap_room {b v W : Array UInt8} {x y : Option Int} {k f n : Nat} (hb : b.size ≤ k) (h : apw f n ++ v = W) (hW : W.size ≤ 24) (hk : k ≤ 1000) : (KBy.picked b x y).size + v.size ≤ 16777216 := by
  have h1 := KBc.size_picked_le b x y
  have h2 : (apw f n ++ v).size = W.size := by rw [h]
  rw [Array.size_append] at h2
  exact Nat.le_trans (Nat.add_le_add (Nat.le_trans h1 (Nat.le_trans hb hk)) (Nat.le_trans (Nat.le_of_add_left_le (Nat.le_of_eq h2)) hW)) (by decide : 1000 + 24 ≤ 16777216)
theorem ap_end {v W : Array UInt8} {a : Int} (h : apw 24 a.toNat ++ v = W) (ha : a = 0) : v = W := by
  subst ha
  rw [← h]
  simp [apw]
theorem ap_spec {w : World} {dp un : Nat} {fr : Option (List Env)} {gd : Option (List Code)} {Q E : Value → Shared → Prop} {s : Shared} {loose : List Str} {mean : ExcName → Option Value} {mg mb : Str → Option Value}
  (n : Int) (t : Tok) (hn : -16777216 < n ∧ n < 16777216)
  (hd1 : dp + 5 < recursionLimit) (hu : un + 20 < cLine) (X : (hd.heap_39 w.params).In s.heap) (T : Top hd.view_39 loose mean mg mb s.heap)
  (h : ∀ h' tk t v, (∀ b o, s.heap.get? b = some o → h'.get? b = some o) → v = apw 24 n.natAbs → Q (.bytes v t) { s with heap := h', toks := tk }) :
  wpAny (model PySem.Challenge.rw_wn0101_01.row.prog w) (AA dp un fr gd) (call (.ref 28) [.int n t]) Q E s := by
  revert X
  k_with_none
  w_top off
  k_with "subscriptTail" => (((with_reducible show wpAny _ _ (subscriptTail _ (Expr.Slice _ _ none _) (Value.bytes _ _) (Value.ref _)) _ _ _); (with_reducible rename Fr _ _ _ _ => zF'); (with_reducible rename News _ _ _ _ => zN'); (refine KBc.slice_K (s := ⟨_, _, _, _, _⟩) zF' zN' rfl (by constructor) (by constructor) (by first | decide | (rw [KBw.ints_length]; (first | (law_clear; lia) | omega))) ?_); intro _ _ _ _ _ _))
  k_with "binaryOp Add bytes bytes" => (((refine KBy.add_bytes ?hz ?_); rotate_left; intro _ _))
  k_fill
  intro X
  (refine' enter ?X ?T ?k6 ?k7 ?k8 ?k9 ?kB ?_ ?c2 ?c3 ?c4 ?c5; (case X => assumption); (case T => assumption); (case k6 => k_is); (case k7 => k_is); (case k8 => (dsimp only [AA]; (first | (law_clear; lia) | omega))); (case k9 => exact BindsTo.of_eq rfl); (case c5 => decide); (case kB => exact locs rfl); (case c2 => exact rfl); (case c3 => exact rfl); (case c4 => exact rfl))
  intro L h₁ F
  have N : News s.heap L h₁ [] := News.nil
  k_with "state" => first | exact ap_start _ hn | exact ap_turn (by assumption) (by assumption) (by assumption) (by assumption)
  k_with "measure" => exact ap_fall (by assumption) (by assumption)
  k_with "exec While Name cons nil" => k_while (fun _ num val => 0 ≤ num ∧ num < 16777216 ∧ apw 24 num.toNat ++ val = apw 24 n.natAbs) (fun _ num _ => num.toNat) "num" "val"
  k_steps
  · exact ap_room (k := 16) (by decide) (by assumption) (apw_size _ _) (by decide)
  · exact h _ _ _ _ (by exact Fr.keep (by assumption)) (ap_end (by assumption) (by assumption))
end
section
open PySem PySem.W PyProof.Rows PySem.Calls
open Sem (wp)
open AutoSeq1 (wpAny_loadPart')
set_option Elab.async false
set_option maxRecDepth 100000

theorem arg_any {β : Type} {prog : Program} {w : World} {A : Around} {α : Type} {Q : α → Shared → Prop} {E : Value → Shared → Prop} {s : Shared} {f : β → Sem α} {b : β} (h : ∀ b, wpAny (model prog w) A (f b) Q E s) : wpAny (model prog w) A (f b) Q E s := h b
set_option maxHeartbeats 1000000 in
theorem meets_enum_new (b : Array UInt8) (t : Tok) :
    Meets (Builtin.«enumerate.__new__» ⟨[.type "enumerate", .bytes b t], []⟩) (fun _ R s =>
      R (.ok (.ret (.ref (s.heap.push { cls := .type "bytes_iterator", data := .fields #[.bytes b t, .int 0 0] }).objs.size)))
        { s with heap := (s.heap.push { cls := .type "bytes_iterator", data := .fields #[.bytes b t, .int 0 0] }).push { cls := .type "enumerate", data := .fields #[.none, .bool false, .ref s.heap.objs.size, rawInt 0, .none, .none] } }) :=
  .of_wp fun prog w A R s h => by
    obtain ⟨hp, g, d, tk, os⟩ := s
    have hsub := sub_enumerate
    wp_walk
    refine wpAny_stack_any fun st => wpAny_pure ?_
    refine arg_any fun q => ?_
    cases q
    · wp_walk using KBw.pyIter_bytes
      exact ⟨_, rfl, h⟩
    · wp_walk using KBw.pyIter_bytes
      exact ⟨_, rfl, h⟩

section
variable {prog : Program} {w : World} {A : Around} {E : Value → Shared → Prop} {s : Shared} {b : Array UInt8} {t : Tok}

theorem call_enum_bytes {Q : Value → Shared → Prop}
    (h : ∀ h', IsEnum h' (s.heap.objs.size + 1) s.heap.objs.size 0 .none → KBw.IsBytesIter h' s.heap.objs.size b t 0 →
      (∀ b o, s.heap.get? b = some o → h'.get? b = some o) → Q (.ref (s.heap.objs.size + 1)) { s with heap := h' }) :
    wpAny (model prog w) A (call (.type "enumerate") [.bytes b t]) Q E s := by
  refine callType_new F.called_enumerate (by decide) (F.typeCall_enumerate_1 _) (F.newCall_enumerate_1 _) (fun obj => F.args_object_init_2 obj _) F.entry_enumerate_new
    (meets_enum_new b t) ?_
  have hz : (s.heap.push { cls := .type "bytes_iterator", data := .fields #[.bytes b t, .int 0 0] }).objs.size = s.heap.objs.size + 1 := Heap.size_push ..
  show _ ∧ _
  rw [hz]
  have he : IsEnum ((s.heap.push { cls := .type "bytes_iterator", data := .fields #[.bytes b t, .int 0 0] }).push
      { cls := .type "enumerate", data := .fields #[.none, .bool false, .ref s.heap.objs.size, rawInt 0, .none, .none] }) (s.heap.objs.size + 1) s.heap.objs.size 0 .none := by
    have := Heap.get?_push_size (s.heap.push { cls := .type "bytes_iterator", data := .fields #[.bytes b t, .int 0 0] })
      (o := { cls := .type "enumerate", data := .fields #[.none, .bool false, .ref s.heap.objs.size, rawInt 0, .none, .none] }) rfl
    rw [hz] at this; exact this
  exact ⟨⟨_, he, rfl⟩, h _ he ⟨_, Heap.get?_push_of_some _ (Heap.get?_push_size _ rfl), rfl, rfl⟩ fun b o x => Heap.get?_push_of_some _ (Heap.get?_push_of_some _ x)⟩

theorem nextOf_bytes_item {it : Addr} {i : Nat} {c : UInt8} {Q : Value → Shared → Prop} (hit : KBw.IsBytesIter s.heap it b t i) (hx : b[i]? = some c)
    (hQ : ∀ h', KBw.IsBytesIter h' it b t (i + 1) → Heap.SameBut it s.heap h' → Q (.int (c.toNat : Int) s.toks) { s with heap := h', toks := s.toks + 1 }) :
    wpAny (model prog w) A (Builtin.SmallTypes.nextOf (.ref it)) Q E s := by
  obtain ⟨o, ho, hc, hd⟩ := id hit
  unfold Builtin.SmallTypes.nextOf
  refine wpAny_bind (wpAny_callSpecial?_slot (name := Str.ofString "__next__") (KBw.iter_typeIs hit) KBw.slot_next
    (wpAny_call_entry KBw.slot_next (KBw.iter_typeIs hit) KBw.entry_next ?_ (KBw.args_next _)))
  show wpAny _ _ (field (.ref it) 0 >>= _) _ _ s
  refine wpAny_bind (wpAny_field ho hd (x := .bytes b t) rfl ?_)
  show wpAny _ _ (if (Value.bytes b t == Value.none) = true then _ else _) _ _ s
  rw [if_neg (show ¬ ((Value.bytes b t == Value.none) = true) from Bool.false_ne_true)]
  show wpAny _ _ (field (.ref it) 1 >>= _) _ _ s
  refine wpAny_bind (wpAny_field ho hd (x := .int i 0) rfl ?_)
  refine wpAny_bind (wpAny_of_eq (a := b) rfl ?_)
  simp only [Int.toNat_natCast, hx]
  refine wpAny_bind (wpAny_setField ho hd (by simp) (wpAny_bind (wpAny_mkInt (wpAny_pure ⟨_, rfl, wpAny_pure (hQ _ ?_ (Heap.SameBut.update ..))⟩))))
  exact ⟨_, Heap.get?_update_self _ ho (Obj.isFreed_of_fields (Obj.data_mapFields hd _)), (Obj.cls_mapFields ..).trans hc, by
    rw [Obj.data_mapFields hd]; simp [rawInt]⟩

theorem enumB_next_item {e it : Addr} {i : Nat} {c : UInt8} {old : Value} {Q : Value → Shared → Prop}
    (he : IsEnum s.heap e it i old) (hit : KBw.IsBytesIter s.heap it b t i) (hx : b[i]? = some c) (hne : e ≠ it)
    (hQ : ∀ h' x, x = .int (c.toNat : Int) s.toks → IsEnumOut h' e it ((i : Int) + 1) x s.heap.objs.size → KBw.IsBytesIter h' it b t (i + 1) →
      h'.get? s.heap.objs.size = some { cls := .type "tuple", data := .seq #[.int i (s.toks + 1), x] } →
      (∀ b o, b ≠ e → b ≠ it → s.heap.get? b = some o → h'.get? b = some o) → Q (.ref s.heap.objs.size) { s with heap := h', toks := s.toks + 1 + 1 }) :
    wpAny (model prog w) A (Builtin.«enumerate.__next__» ⟨[.ref e], []⟩) (fun fin s' => ∃ v, fin = .done (.ret v) ∧ Q v s') E s := by
  obtain ⟨hp, g, d, tk, os⟩ := s
  show wpAny _ _ (field (.ref e) 2 >>= _) _ _ _
  refine wpAny_bind (wpAny_field he rfl (x := .ref it) rfl ?_)
  refine wpAny_bind (nextOf_bytes_item hit hx fun h₁ hit₁ hs₁ => ?_)
  generalize hxx : Value.int (c.toNat : Int) tk = x
  replace hQ := fun h' => hQ h' x hxx.symm
  replace hs₁ : Heap.SameBut it hp h₁ := hs₁
  have he₁ : IsEnum h₁ e it i old := (hs₁.2 e hne).trans he
  show wpAny _ _ (field (.ref e) 3 >>= _) _ _ ⟨h₁, g, d, tk + 1, os⟩
  refine wpAny_bind (wpAny_field he₁ rfl (x := rawInt i) rfl ?_)
  show wpAny _ _ (field (.ref e) 4 >>= _) _ _ ⟨h₁, g, d, tk + 1, os⟩
  refine wpAny_bind (wpAny_field he₁ rfl (x := .none) rfl ?_)
  show wpAny _ _ (mkInt i >>= _) _ _ ⟨h₁, g, d, tk + 1, os⟩
  refine wpAny_bind (wpAny_mkInt ?_)
  show wpAny _ _ (setField (.ref e) 3 (rawInt ((i : Int) + 1)) >>= _) _ _ ⟨h₁, g, d, tk + 1 + 1, os⟩
  refine wpAny_bind (wpAny_setField_rec he₁ (by simp) fun h₂ he₂ hs₂ => ?_)
  replace hs₂ : Heap.SameBut e h₁ h₂ := hs₂
  replace he₂ : IsEnum h₂ e it ((i : Int) + 1) old := he₂
  show wpAny _ _ (setField (.ref e) 4 .none >>= _) _ _ ⟨h₂, g, d, tk + 1 + 1, os⟩
  refine wpAny_bind (wpAny_setField_rec he₂ (by simp) fun h₃ he₃ hs₃ => ?_)
  replace hs₃ : Heap.SameBut e h₂ h₃ := hs₃
  replace he₃ : IsEnum h₃ e it ((i : Int) + 1) old := he₃
  show wpAny _ _ (newTuple [.int i (tk + 1), x] >>= _) _ _ ⟨h₃, g, d, tk + 1 + 1, os⟩
  refine wpAny_bind (wpAny_newTuple ?_)
  have he₄ : IsEnum (h₃.push { cls := .type "tuple", data := .seq #[.int i (tk + 1), x] }) e it ((i : Int) + 1) old := Heap.get?_push_of_some _ he₃
  generalize hh₄ : h₃.push { cls := .type "tuple", data := .seq #[.int i (tk + 1), x] } = h₄ at he₄
  have hsz : h₃.objs.size = hp.objs.size := by rw [hs₃.1, hs₂.1, hs₁.1]
  have hel : e < hp.objs.size := Heap.lt_size he
  have ht₄ : h₄.get? hp.objs.size = some { cls := .type "tuple", data := .seq #[.int i (tk + 1), x] } := by rw [← hh₄, ← hsz]; exact Heap.get?_push_size _ rfl
  have hk₄ : ∀ b o, b ≠ e → b ≠ it → hp.get? b = some o → h₄.get? b = some o := fun b o hbe hbi hb => by
    rw [← hh₄]; exact Heap.get?_push_of_some _ (hs₃.extBut b o hbe (hs₂.extBut b o hbe (hs₁.extBut b o hbi hb)))
  have hit₄ : KBw.IsBytesIter h₄ it b t (i + 1) := by
    rw [← hh₄]
    obtain ⟨o, ho, r⟩ := hit₁
    exact ⟨o, Heap.get?_push_of_some _ (hs₃.extBut it o (Ne.symm hne) (hs₂.extBut it o (Ne.symm hne) ho)), r⟩
  show wpAny _ _ (Builtin.SmallTypes.ownedTupleIsFree (.ref e) >>= _) _ _ ⟨h₄, g, d, tk + 1 + 1, os⟩
  rw [hsz]
  clear hh₄ he₃ hs₃ he₂ hs₂ he₁ hs₁ hit₁ hsz h₃ h₂ h₁
  refine wpAny_bind ?_
  unfold Builtin.SmallTypes.ownedTupleIsFree
  refine wpAny_bind (wpAny_field he₄ rfl (x := .none) rfl (wpAny_pure ?_))
  simp only [if_true]
  refine wpAny_bind (wpAny_rule ?_)
  refine wpAny_bind (wpAny_field he₄ rfl (x := old) rfl ?_)
  refine wpAny_bind (wpAny_setField_rec he₄ (by simp) fun h₅ he₅ hs₅ => ?_)
  replace hs₅ : Heap.SameBut e h₄ h₅ := hs₅
  replace he₅ : IsEnum h₅ e it ((i : Int) + 1) x := he₅
  show wpAny _ _ (Builtin.SmallTypes.ownedTupleHandOut (.ref e) (.ref hp.objs.size) >>= _) _ _ ⟨h₅, g, d, tk + 1 + 1, os⟩
  refine wpAny_bind ?_
  unfold Builtin.SmallTypes.ownedTupleHandOut
  refine wpAny_bind (wpAny_setField_rec he₅ (by simp) fun h₆ he₆ hs₆ => ?_)
  replace hs₆ : Heap.SameBut e h₅ h₆ := hs₆
  replace he₆ : IsEnumOut h₆ e it ((i : Int) + 1) x hp.objs.size := he₆
  refine wpAny_setField_rec he₆ (by simp) fun h₇ he₇ hs₇ => ?_
  replace hs₇ : Heap.SameBut e h₆ h₇ := hs₇
  replace he₇ : IsEnumOut h₇ e it ((i : Int) + 1) x hp.objs.size := he₇
  refine wpAny_bind (wpAny_letGo (wpAny_pure ⟨_, rfl, hQ h₇ he₇ ?_ ?_ ?_⟩))
  · obtain ⟨o, ho, r⟩ := hit₄
    exact ⟨o, hs₇.extBut it o (Ne.symm hne) (hs₆.extBut it o (Ne.symm hne) (hs₅.extBut it o (Ne.symm hne) ho)), r⟩
  · exact hs₇.extBut _ _ (Nat.ne_of_gt hel) (hs₆.extBut _ _ (Nat.ne_of_gt hel) (hs₅.extBut _ _ (Nat.ne_of_gt hel) ht₄))
  · exact fun b o hbe hbi hb => hs₇.extBut b o hbe (hs₆.extBut b o hbe (hs₅.extBut b o hbe (hk₄ b o hbe hbi hb)))

theorem pyNext_enumB_item {e it : Addr} {i : Nat} {c : UInt8} {old : Value} {Q : Option Value → Shared → Prop}
    (he : IsEnum s.heap e it i old) (hit : KBw.IsBytesIter s.heap it b t i) (hx : b[i]? = some c) (hne : e ≠ it)
    (hQ : ∀ h' x, x = .int (c.toNat : Int) s.toks → IsEnumOut h' e it ((i : Int) + 1) x s.heap.objs.size → KBw.IsBytesIter h' it b t (i + 1) →
      h'.get? s.heap.objs.size = some { cls := .type "tuple", data := .seq #[.int i (s.toks + 1), x] } →
      (∀ b o, b ≠ e → b ≠ it → s.heap.get? b = some o → h'.get? b = some o) → Q (some (.ref s.heap.objs.size)) { s with heap := h', toks := s.toks + 1 + 1 }) :
    wpAny (model prog w) A (pyNext (.ref e)) Q E s := by
  have hT : s.TypeIs (.ref e) "enumerate" := ⟨_, he, rfl⟩
  unfold pyNext
  exact wpAny_bind (wpAny_attempt (wpAny_callSpecial?_slot (name := Str.ofString "__next__") hT F.slot_enumerate_next
    (wpAny_call_entry F.slot_enumerate_next hT F.entry_enumerate_next
      (enumB_next_item he hit hx hne fun h' x a b c d k => wpAny_pure (hQ h' x a b c d k)) (F.args_enumerate_next_1 _))))

end
end
section
open PySem PySem.W PyProof.Rows PySem.Calls
open Sem (wp)
set_option Elab.async false
set_option maxRecDepth 100000
section
variable {prog : Program} {w : World} {A : Around} {E : Value → Shared → Prop} {s : Shared} {b : Array UInt8} {t u : Tok} {k : Int}
theorem in_bytes {Q : Value → Shared → Prop} (h0 : 0 ≤ k) (h1 : k < 256) (h : Q (.bool (b.contains k.toNat.toUInt8)) s) : wpAny (model prog w) A (compareOp .In (.int k u) (.bytes b t)) Q E s := by
  have hT := typeIs_bytes s b t
  show wpAny _ _ (do return .bool (← contains (.bytes b t) (.int k u))) Q E s
  refine wpAny_bind ?_
  unfold contains
  try with_reducible refine wpAny_holding ?_
  refine wpAny_bind (wpAny_specialOf hT FB.slot_bytes_contains.lookup ?_)
  show wpAny _ _ (if (some (Value.builtin "bytes.__contains__") == some Value.none) = true then _ else _) _ E s
  rw [if_neg (by rw [beq_builtin_none]; exact Bool.false_ne_true)]
  refine wpAny_bind (wpAny_callSpecialUnlessNone?_slot (name := Str.ofString "__contains__") hT FB.slot_bytes_contains
    (wpAny_call_entry FB.slot_bytes_contains hT FB.entry_bytes_contains ?_ (FB.args_bytes_contains_2 _ _)))
  show wpAny _ _ (do ret (.bool (← Builtin.Bytes.containsIn "bytes.__contains__" (.bytes b t) (.int k u)))) _ _ _
  refine wpAny_bind ?_
  unfold Builtin.Bytes.containsIn
  refine wpAny_bind (wpAny_attempt (wpAny_of_eq (a := k) rfl ?_))
  refine wpAny_bind (wpAny_of_eq KBy.buffer_eq ?_)
  show wpAny _ _ (if (decide (k < 0) || decide (k ≥ 256)) = true then _ else _) _ _ _
  rw [if_neg (by simp; (first | (law_clear; lia) | omega))]
  refine wpAny_pure ?_
  exact wpAny_pure ⟨_, rfl, wpAny_truthy_bool (wpAny_pure h)⟩
end
end
section
open PySem PySem.W PyProof.Rows PySem.Calls
open Sem (wp)
set_option Elab.async false
set_option maxRecDepth 100000
section
variable {prog : Program} {w : World} {A : Around} {s : Shared}
noncomputable abbrev noE : Value → Shared → Prop := fun _ _ => False

/-- an end that the walk leaves alone -/
structure Kept (P : Prop) : Prop where
  out : P
/-- a turn of a for, no way out by a raise; K: what a turn's end must give -/
noncomputable abbrev ForTurn (prog : Program) (w : World) (A : Around) (target : Expr) (it : Value) (body orelse : List Stmt) (env : Env) (Q : Flow → Shared → Prop) (K : Shared → Prop) (s : Shared) : Prop :=
  wpAny (model prog w) A (pyNext it) (fun r s₁ => match r with
      | none => wpAny (model prog w) A (execs orelse env) Q noE s₁
      | some v => wpAny (model prog w) A (letOwnedTupleGo target it v) (fun _ s₁' =>
          wpAny (model prog w) A (assign target env v) (fun _ s₂ => wpAny (model prog w) A (execs body env) (fun f s₃ => match f with
            | .next | .cont => Kept (K s₃)
            | .brk => Q .next s₃
            | .ret v => Q (.ret v) s₃) noE s₂) noE s₁') noE s₁) noE s

theorem noE_up {α : Type} {t : Sem α} {Q : α → Shared → Prop} {E : Value → Shared → Prop} (h : wpAny (model prog w) A t Q noE s) : wpAny (model prog w) A t Q E s :=
  wpAny_mono h (fun _ _ x => x) fun _ _ x => x.elim

theorem abs_post {α : Type} {t : Sem α} {Q : α → Shared → Prop} {E : Value → Shared → Prop} (h : ∀ Q' : α → Shared → Prop, (∀ a s', Q a s' → Q' a s') → wpAny (model prog w) A t Q' noE s) : wpAny (model prog w) A t Q E s :=
  noE_up (h Q fun _ _ q => q)
theorem noE_toks {α : Type} {t : Sem α} {Q Q' : α → Shared → Prop} {E : Value → Shared → Prop} {n : Nat} (hn : n ≤ s.toks) (h : wpAny (model prog w) A t Q noE s) (hQ : ∀ a s', n ≤ s'.toks → Q a s' → Q' a s') : wpAny (model prog w) A t Q' E s :=
  wpAny_mono (wpAny_toks_of hn h) (fun a s' x => hQ a s' x.1 x.2) fun _ _ x => x.2.elim

/-- a for: an invariant and a measure; the tokens only grow -/
theorem For_pure {target iter : Expr} {body orelse : List Stmt} {pos : Pos} {env : Env} {Q : Flow → Shared → Prop} {E : Value → Shared → Prop}
    (h : wpAny (model prog w) A (eval iter env) (fun x s₁ => wpAny (model prog w) A (pyIter x) (fun it s₂ => ∃ (I : Nat → Shared → Prop) (n : Nat), I n s₂ ∧ ∀ n s, s₂.toks ≤ s.toks → I n s →
      ∀ K : Shared → Prop, (∀ m s', m < n → I m s' → K s') → ∀ Q' : Flow → Shared → Prop, (∀ f s', Q f s' → Q' f s') → ForTurn prog w A target it body orelse env Q' K s) noE s₁) noE s)
    (hs : ∀ x, foldedSetIterable iter env x = pure x) :
    wpAny (model prog w) A (exec (.For target iter body orelse pos) env) Q E s := by
  refine wpAny_For (noE_up (wpAny_mono h (fun x s₁ h₁ => noE_up (wpAny_mono h₁ (fun it s₂ h₂ => ?_) fun _ _ x => x)) fun _ _ x => x)) hs
  obtain ⟨I, n, h0, turn⟩ := h₂
  refine codeAny_forLoop_any (fun n s => s₂.toks ≤ s.toks ∧ I n s) (fun n s hI => ?_) n ⟨Nat.le_refl _, h0⟩
  refine noE_toks hI.1 (turn n s hI.1 hI.2 (fun s' => ∃ m, m < n ∧ I m s') (fun m s' hm hi => ⟨m, hm, hi⟩) Q (fun _ _ q => q)) fun r s₁ t₁ h₁ => ?_
  cases r with
  | none => exact noE_up h₁
  | some v =>
    exact noE_toks t₁ h₁ fun _ s₃ t₃ h₃ => noE_toks t₃ h₃ fun _ s₄ t₄ h₄ => noE_toks t₄ h₄ fun f s₅ t₅ h₅ => by
      cases f with
      | next => obtain ⟨m, hm, hI⟩ := h₅.out; exact ⟨m, hm, t₅, hI⟩
      | cont => obtain ⟨m, hm, hI⟩ := h₅.out; exact ⟨m, hm, t₅, hI⟩
      | brk => exact h₅
      | ret v => exact h₅

theorem room1 {dp a b lim : Nat} (h : dp + b < lim) (hab : Nat.ble (1 + a) b = true) : dp + 1 + a < lim := by
  have := Nat.le_of_ble_eq_true hab
  (first | (law_clear; lia) | omega)
theorem room0 {dp a b lim : Nat} (h : dp + b < lim) (hab : Nat.ble a b = true) : dp + a < lim := by
  have := Nat.le_of_ble_eq_true hab
  (first | (law_clear; lia) | omega)
theorem is_ints {M : Model} {E : Value → Shared → Prop} {a b : Int} {t u : Tok} {Q : Value → Shared → Prop} (ht : @Ne Nat t 0) (hu : @Ne Nat u 0) (htu : @Ne Nat t u) (hs : smallInt a = true) (h : Q (.bool (decide (a = b))) s) :
    wpAny M A (compareOp .Is (.int a t) (.int b u)) Q E s := by
  have h1 : (t == 0 || u == 0) = false := by simp [ht, hu]
  have h2 : (t == u) = false := by simpa using htu
  show wpAny M A (do return .bool (← isSame (.int a t) (.int b u))) Q E s
  refine wpAny_bind ?_
  show wpAny M A (if (a == b && smallInt a) = true then isSame.cachedInt t u else isSame.created (a == b) t u) _ E s
  by_cases e : a = b
  · subst e
    rw [if_pos (by simp [hs])]
    unfold isSame.cachedInt
    rw [h1, if_neg Bool.false_ne_true]
    refine wpAny_bind (wpAny_rule (wpAny_pure (wpAny_pure ?_)))
    simpa using h
  · have e' : (a == b) = false := by simpa using e
    rw [e']
    unfold isSame.created
    rw [h1, h2]
    refine wpAny_pure (wpAny_pure ?_)
    rw [decide_eq_false e] at h
    exact h
end
end
section
open PySem PySem.W PyProof.Rows PySem.Calls
set_option Elab.async false
set_option maxRecDepth 100000
set_option maxHeartbeats 2000000
set_option pp.deepTerms false
set_option pp.deepTerms.threshold 4
set_option pp.proofs false

theorem has_spec {w : World} {dp un : Nat} {fr : Option (List Env)} {gd : Option (List Code)} {Q E : Value → Shared → Prop} {s : Shared} {loose : List Str} {mean : ExcName → Option Value} {mg mb : Str → Option Value}
  (b : Array UInt8) (t u : Tok) (k : Int) (hk0 : 0 ≤ k) (hk1 : k < 256)
  (hd1 : dp + 5 < recursionLimit) (X : (hd.heap_39 w.params).In s.heap) (T : Top hd.view_39 loose mean mg mb s.heap)
  (h : ∀ h' tk v, (∀ b o, s.heap.get? b = some o → h'.get? b = some o) → v = b.contains k.toNat.toUInt8 → Q (.bool v) { s with heap := h', toks := tk }) :
  wpAny (model PySem.Challenge.rw_wn0101_01.row.prog w) (AA dp un fr gd) (call (.ref 42) [.bytes b t, .int k u]) Q E s := by
  revert X
  k_with_none
  w_top off
  k_with "compareOp In int bytes" => ((refine in_bytes (by assumption) (by assumption) ?_))
  k_fill
  intro X
  (refine' enter ?X ?T ?k6 ?k7 ?k8 ?k9 ?kB ?_ ?c2 ?c3 ?c4 ?c5; (case X => assumption); (case T => assumption); (case k6 => k_is); (case k7 => k_is); (case k8 => (dsimp only [AA]; (first | (law_clear; lia) | omega))); (case k9 => exact BindsTo.of_eq rfl); (case c5 => decide); (case kB => exact locs rfl); (case c2 => exact rfl); (case c3 => exact rfl); (case c4 => exact rfl))
  intro L h₁ F
  have N : News s.heap L h₁ [] := News.nil
  k_steps
  exact h _ _ _ F.keep rfl


theorem byte_eq {c : UInt8} {k : Int} (h0 : 0 ≤ k) (h1 : k < 256) : ((c.toNat : Int) = k) ↔ c = k.toNat.toUInt8 := by
  obtain ⟨n, rfl⟩ := Int.eq_ofNat_of_zero_le h0
  have hn : n < 256 := by (first | (law_clear; lia) | omega)
  constructor
  · intro e
    have e' : c.toNat = n := by (first | (law_clear; lia) | omega)
    subst e'
    simp
  · intro e
    subst e
    simp only [Int.toNat_natCast, Nat.toUInt8, UInt8.toNat_ofNat']
    (first | (law_clear; lia) | omega)

theorem idxOf_first {b : Array UInt8} {c : UInt8} {i : Nat} (hv : b[i]? = some c) (hno : ∀ j, j < i → b[j]? ≠ some c) : b.toList.idxOf c = i := by
  have hlt : i < b.toList.length := by
    have := (Array.getElem?_eq_some_iff.mp hv).1
    simpa using this
  have hv' : b.toList[i]? = some c := by simpa using hv
  have hge : b.toList[i] = c := by
    have := List.getElem?_eq_getElem hlt
    rw [this] at hv'
    exact Option.some.inj hv'
  rw [List.idxOf, List.findIdx_eq hlt]
  refine ⟨by simp [hge], fun j hj => ?_⟩
  have := hno j hj
  rw [← Array.getElem?_toList, List.getElem?_eq_getElem (by (first | (law_clear; lia) | omega))] at this
  simpa using this

theorem idx_spec {w : World} {dp un : Nat} {fr : Option (List Env)} {gd : Option (List Code)} {Q E : Value → Shared → Prop} {s : Shared} {loose : List Str} {mean : ExcName → Option Value} {mg mb : Str → Option Value}
  (b : Array UInt8) (t u : Tok) (k : Int) (hk0 : 0 ≤ k) (hk1 : k < 256) (hin : k.toNat.toUInt8 ∈ b) (hu0 : @Ne Nat u 0) (hu1 : @LT.lt Nat _ u s.toks)
  (hd1 : dp + 5 < recursionLimit) (X : (hd.heap_39 w.params).In s.heap) (T : Top hd.view_39 loose mean mg mb s.heap)
  (h : ∀ h' tk v t, (∀ b o, s.heap.get? b = some o → h'.get? b = some o) → v = (b.toList.idxOf k.toNat.toUInt8 : Int) → Q (.int v t) { s with heap := h', toks := tk }) :
  wpAny (model PySem.Challenge.rw_wn0101_01.row.prog w) (AA dp un fr gd) (call (.ref 56) [.bytes b t, .int k u]) Q E s := by
  revert X
  k_with_none
  w_top off
  k_with "compareOp In int bytes" => ((refine in_bytes (by assumption) (by assumption) ?_))
  k_with "compareOp Is int int" => ((refine is_ints (by (first | (law_clear; lia) | omega)) (by (first | (law_clear; lia) | omega)) (by (first | (law_clear; lia) | omega)) ?_ ?_; · (first | decide | (simp only [smallInt, Bool.and_eq_true, decide_eq_true_eq]; (first | (law_clear; lia) | omega)))))
  k_fill
  intro X
  (refine' enter ?X ?T ?k6 ?k7 ?k8 ?k9 ?kB ?_ ?c2 ?c3 ?c4 ?c5; (case X => assumption); (case T => assumption); (case k6 => k_is); (case k7 => k_is); (case k8 => (dsimp only [AA]; (first | (law_clear; lia) | omega))); (case k9 => exact BindsTo.of_eq rfl); (case c5 => decide); (case kB => exact locs rfl); (case c2 => exact rfl); (case c3 => exact rfl); (case c4 => exact rfl))
  intro L h₁ F
  have N : News s.heap L h₁ [] := News.nil
  refine wpAny_execs_cons ?_
  refine For_pure ?_ (by intro _; rfl)
  repeat walk1
  refine call_enum_bytes fun h₂ he hit hk₂ => ?_
  have F₂ := F.keeps hk₂
  have hi0 : s.heap.get? h₁.objs.size = none := none_at_size (s := { s with heap := h₁ }) F
  have he0 : s.heap.get? (h₁.objs.size + 1) = none := by
    cases q : s.heap.get? (h₁.objs.size + 1) with
    | none => rfl
    | some o => exact absurd (Heap.lt_size (F.keep _ _ q)) (Nat.not_lt.mpr (Nat.le_succ _))
  have hLs : @LT.lt Nat _ L h₁.objs.size := F.ns.lt
  generalize h₁.objs.size = it at *
  refine wpAny_pyIter_enum he ?_
  refine ⟨fun n s' => ∃ (i : Nat) (h' : Heap) (tk : Nat) (m : Str → Option Value) (old : Value),
    s' = { s with heap := h', toks := tk } ∧ IsEnum h' (it + 1) it i old ∧ KBw.IsBytesIter h' it b t i ∧ Fr s.heap L h' m ∧ m "a" = some (.bytes b t) ∧ m "b" = some (.int k u) ∧
    i ≤ b.size ∧ (∀ j, j < i → b[j]? ≠ some k.toNat.toUInt8) ∧ n = b.size - i, b.size,
    ⟨0, h₂, _, _, .none, rfl, he, hit, F₂, rfl, rfl, Nat.zero_le _, fun j hj => absurd hj (Nat.not_lt_zero _), rfl⟩, ?_⟩
  rintro n s' htk ⟨i, h', tk, m, old, rfl, he, hit, F, ha, hb, hi, hno, rfl⟩ K hK Q' hQ'
  cases hv : b[i]? with
  | none =>
    exfalso
    have : i = b.size := Nat.le_antisymm hi (by simpa using hv)
    obtain ⟨j, hj, e⟩ := Array.mem_iff_getElem.mp hin
    exact hno j (by (first | (law_clear; lia) | omega)) (by rw [Array.getElem?_eq_getElem hj, e])
  | some c =>
    have hlt : i < b.size := (Array.getElem?_eq_some_iff.mp hv).1
    dsimp only at htk
    refine pyNext_enumB_item he hit hv (Nat.succ_ne_self _) fun h₃ x hx heo hit₃ hT₃ hk₃ => ?_
    refine wpAny_letOwnedTupleGo_enum heo fun h₄ he₄ hs₄ => ?_
    dsimp only at hs₄ hT₃ hx ⊢
    subst hx
    have hTn : s.heap.get? h'.objs.size = none := none_at_size (s := { s with heap := h' }) F
    have hTe : h'.objs.size ≠ it + 1 := Nat.ne_of_gt (Heap.lt_size he)
    have hTi : h'.objs.size ≠ it := by obtain ⟨o, ho, _⟩ := hit; exact Nat.ne_of_gt (Heap.lt_size ho)
    have hTL : h'.objs.size ≠ L := Nat.ne_of_gt F.ns.lt
    have hLe : L ≠ it + 1 := Nat.ne_of_lt (Nat.lt_succ_of_lt hLs)
    have F₄ : Fr s.heap L h₄ m := by
      refine ⟨F.ns.at' fun o e => hs₄.extBut L o hLe (hk₃ L o hLe (Nat.ne_of_lt hLs) e), fun b o e => hs₄.extBut b o (fun q => ?_) (hk₃ b o (fun q => ?_) (fun q => ?_) (F.keep b o e)), F.above⟩
      all_goals (subst q; simp_all)
    obtain ⟨oi, hoi, hoic, hoid⟩ := hit₃
    have N₄ : News s.heap L h₄ [(h'.objs.size, { cls := .type "tuple", data := .seq #[.int i (tk + 1), .int (c.toNat : Int) tk] }), (it + 1, { cls := .type "enumerate", dict := none, data := .fields #[.none, .bool false, .ref it, rawInt (i + 1), .none, .int (c.toNat : Int) tk], slots := #[] }), (it, oi)] := by
      intro p hp
      rcases List.mem_cons.mp hp with rfl | hp
      · exact ⟨hs₄.extBut _ _ hTe hT₃, hTL, hTn⟩
      · rcases List.mem_cons.mp hp with rfl | hp
        · exact ⟨he₄, hLe.symm, he0⟩
        · rw [List.mem_singleton.mp hp]
          exact ⟨hs₄.extBut _ _ (Nat.succ_ne_self _).symm hoi, Nat.ne_of_gt hLs, hi0⟩
    have hm : m = fun y => if y = Str.ofString "a" then some (Value.bytes b t) else if y = Str.ofString "b" then some (.int k u) else m y := by
      funext y
      by_cases h1 : y = Str.ofString "a"
      · rw [if_pos h1, h1]; exact ha
      · rw [if_neg h1]
        by_cases h2 : y = Str.ofString "b"
        · rw [if_pos h2, h2]; exact hb
        · rw [if_neg h2]
    generalize hm' : m = m' at hm
    rw [hm'] at F₄
    rw [hm] at F₄
    have hcl : c.toNat < 256 := c.toNat_lt
    have hce : (c.toNat : Int) = k → c = k.toNat.toUInt8 := (byte_eq hk0 hk1).mp
    k_steps
    · exact hQ' _ _ (h _ _ _ _ (Fr.keep (by assumption)) (by rw [idxOf_first (hv.trans (congrArg some (hce (by assumption)))) hno]))
    · exact hQ' _ _ (h _ _ _ _ (Fr.keep (by assumption)) (by rw [idxOf_first (hv.trans (congrArg some (hce (by assumption)))) hno]))
    · refine ⟨hK (b.size - (i + 1)) _ ?_ ⟨i + 1, _, _, _, _, rfl, News.get (by assumption) (List.mem_cons_of_mem _ (List.mem_cons_self ..)), ⟨oi, News.get (by assumption) (List.mem_cons_of_mem _ (List.mem_cons_of_mem _ (List.mem_singleton.mpr rfl))), hoic, hoid⟩, by assumption, rfl, rfl, hlt, ?_, rfl⟩⟩
      · exact Nat.sub_succ_lt_self _ _ hlt
      · intro j hj
        rcases Nat.lt_succ_iff_lt_or_eq.mp hj with hj | rfl
        · exact hno j hj
        · intro e
          rw [hv] at e
          have hne : (c.toNat : Int) ≠ k := by assumption
          exact hne ((byte_eq hk0 hk1).mpr (Option.some.inj e))
end
section
open PySem PySem.W PyProof.Rows PySem.Calls
open Sem (wp)
open Builtin
set_option Elab.async false
set_option maxRecDepth 100000
theorem sliced_rev (b : Array UInt8) : Bytes.sliced b ((b.size : Int) - 1) (-1) (-1) = b.reverse := by
  unfold Bytes.sliced
  rw [krv_sliceRange, krv_range, List.filterMap_reverse, krv_all]
  exact (Array.toList_reverse ▸ rfl)
theorem meets_rev (b : Array UInt8) (t u : Tok) (a : Addr) :
    Meets («bytes.__getitem__» ⟨[.bytes b t, .ref a], []⟩) (fun _ R s => s.heap.IsSliceOf a .none .none (.int (-1) u) ∧ b.size ≤ sizeLine ∧ ∀ t' k, R (.ok (.ret (.bytes b.reverse t'))) { s with toks := k }) := by
  refine .of_wp fun prog w A R s hS => ?_
  obtain ⟨⟨o, ho, hc, hd⟩, hsz, h⟩ := hS
  have hT : s.TypeIs (.ref a) "slice" := ⟨o, ho, hc⟩
  show wpAny _ _ (Bytes.payload (.bytes b t) >>= fun r => _) _ _ s
  refine wpAny_bind (wpAny_of_eq (a := b) rfl ?_)
  show wpAny _ _ (Bytes.subscript? (.ref a) >>= fun r => _) _ _ s
  refine wpAny_bind ?_
  unfold Bytes.subscript?
  refine wpAny_bind (wpAny_specialOf hT slice_no_index (wpAny_pure ?_))
  refine wpAny_bind (wpAny_typeOf hT ?_)
  show wpAny _ _ (Bytes.sliceParts (.ref a) >>= fun r => _) _ _ s
  refine wpAny_bind ?_
  unfold Bytes.sliceParts
  refine wpAny_bind (wpAny_field (x := .int (-1) u) ho hd rfl ?_)
  kby_int
  refine wpAny_ite (KBy.ite_no (show ¬ ((rawInt (-1) == rawInt 0) = true) by decide) ?_)
  refine wpAny_bind (wpAny_field (x := .none) ho hd rfl ?_)
  have go : wpAny (model prog w) A.in1 (sliceIndices (rawPart none) (rawPart none) (rawPart (some (-1))) b.size) (fun r s' => r = sliceBounds none none (some (-1)) b.size ∧ s' = s) (fun _ _ => False) s :=
    wpAny_of_eq (sliceIndices_raw none none (some (-1)) b.size (by decide)) ⟨rfl, rfl⟩
  kby_none
  refine wpAny_bind (wpAny_field (x := .none) ho hd rfl ?_)
  kby_none
  refine wpAny_pure ?_
  refine wpAny_bind (wpAny_mono go (fun r s' hr => ?_) fun _ _ e => e.elim)
  obtain ⟨hr1, hr2⟩ := hr
  subst hr1 hr2
  rw [krv_bounds]
  refine wpAny_ite (KBy.ite_no (by simp) ?_)
  refine wpAny_bind (wpAny_mkBytes (wpAny_pure ⟨_, rfl, ?_⟩) ?_)
  · rw [sliced_rev]; exact h _ _
  · rw [sliced_rev, Array.size_reverse]; exact hsz
section
variable {prog : Program} {w : World} {A : Around} {E : Value → Shared → Prop} {s : Shared} {value slice : PySem.Expr} {b : Array UInt8} {t u : Tok} {h₀ : Heap} {L : Addr} {m : PySem.Str → Option Value} {news : List (Addr × Obj)} {Q : Value → Shared → Prop}
theorem rev_K (hF : Fr h₀ L s.heap m) (hN : News h₀ L s.heap news) (hz : b.size ≤ 16777216)
    (h : ∀ h' t' k, Fr h₀ L h' m → News h₀ L h' news → Q (.bytes b.reverse t') { s with heap := h', toks := k })
    (hs : subscripted slice false (.bytes b t) (.ref s.heap.objs.size) = operate [.ref s.heap.objs.size, .bytes b t] (getItem (.bytes b t) (.ref s.heap.objs.size)) := by with_unfolding_all rfl)
    (ht : ∀ r, letTemporaryGo value (.bytes b t) r = pure () := by intro _; with_unfolding_all rfl) :
    wpAny (model prog w) A (subscriptTail value slice (.bytes b t) (.ref s.heap.objs.size)) Q E { s with heap := s.heap.push { cls := .type "slice", data := .fields #[.none, .none, .int (-1) u] } } :=
  tail_of_ItemOn ⟨"bytes", _, FB.slot_bytes_getitem.lookup, typeIs_bytes _ _ _, getItem_meets (typeIs_bytes _ _ _) (by decide) FB.slot_bytes_getitem FB.entry_bytes_getitem (FB.args_bytes_getitem_2 _ _) (meets_rev b t u _)
    ⟨Heap.IsSliceOf.new _ _ _ _, by rw [sizeLine_eq]; exact hz, fun t' k => h _ _ _ (hF.push _) (News.pushKeep hN _)⟩⟩ hs ht
end
end
section
open PySem PySem.W PyProof.Rows PySem.Calls
set_option Elab.async false
set_option maxRecDepth 100000
set_option maxHeartbeats 2000000
set_option pp.deepTerms false
set_option pp.deepTerms.threshold 4
set_option pp.proofs false

theorem lh_spec {w : World} {dp un : Nat} {fr : Option (List Env)} {gd : Option (List Code)} {Q E : Value → Shared → Prop} {s : Shared} {loose : List Str} {mean : ExcName → Option Value} {mg mb : Str → Option Value}
  (b : Array UInt8) (t : Tok) (hb : b.size ≤ 1000)
  (hd1 : dp + 5 < recursionLimit) (hu : un + 30 < cLine) (X : (hd.heap_39 w.params).In s.heap) (T : Top hd.view_39 loose mean mg mb s.heap)
  (h : ∀ h' tk v t, (∀ b o, s.heap.get? b = some o → h'.get? b = some o) → v = (b.size : Int) → Q (.int v t) { s with heap := h', toks := tk }) :
  wpAny (model PySem.Challenge.rw_wn0101_01.row.prog w) (AA dp un fr gd) (call (.ref 64) [.bytes b t]) Q E s := by
  revert X
  k_with_none
  w_top off
  k_fill
  intro X
  (refine' enter ?X ?T ?k6 ?k7 ?k8 ?k9 ?kB ?_ ?c2 ?c3 ?c4 ?c5; (case X => assumption); (case T => assumption); (case k6 => k_is); (case k7 => k_is); (case k8 => (dsimp only [AA]; (first | (law_clear; lia) | omega))); (case k9 => first | exact BindsTo.of_eq rfl | exact binds_K (by k_in) rfl (by k_is) rfl rfl rfl); (case c5 => decide); (case kB => exact locs rfl); (case c2 => exact rfl); (case c3 => exact rfl); (case c4 => exact rfl))
  intro L h₁ F
  have N : News s.heap L h₁ [] := News.nil
  k_steps
  exact h _ _ _ _ F.keep rfl



noncomputable def endOf (b : Array UInt8) : Int × Int := ((b.toList.reverse.idxOf (if b.contains 66 then 66 else 67) : Int), (b.size : Int) - 1)

theorem ends_spec {w : World} {dp un : Nat} {fr : Option (List Env)} {gd : Option (List Code)} {Q E : Value → Shared → Prop} {s : Shared} {loose : List Str} {mean : ExcName → Option Value} {mg mb : Str → Option Value}
  (b : Array UInt8) (t : Tok) (hb : b.size ≤ 1000) (hin : 66 ∈ b ∨ 67 ∈ b) (htk : @LT.lt Nat _ 0 s.toks)
  (hd1 : dp + 10 < recursionLimit) (hu : un + 50 < cLine) (X : (hd.heap_39 w.params).In s.heap) (T : Top hd.view_39 loose mean mg mb s.heap)
  (h : ∀ h' tk a t u, (∀ b o, s.heap.get? b = some o → h'.get? b = some o) → IsTup h' a #[.int (endOf b).1 t, .int (endOf b).2 u] → s.heap.get? a = none → Q (.ref a) { s with heap := h', toks := tk }) :
  wpAny (model PySem.Challenge.rw_wn0101_01.row.prog w) (AA dp un fr gd) (call (.ref 151) [.bytes b t]) Q E s := by
  revert X
  k_with_none
  w_top off
  k_with "call ref" => (((with_reducible show wpAny _ _ (call (Value.ref 42) _) _ _ _); (with_reducible rename Fr _ _ _ _ => zF0); (with_reducible rename News _ _ _ _ => zN0); (with_reducible rename Frag.In _ _ => zX0); (with_reducible rename Top _ _ _ _ _ _ => zT0); (refine wpAny_with_toks (n := _) (Nat.le_refl _) (has_spec _ _ _ _ (by decide) (by decide) (by simp only [Around.deeper]; (first | (law_clear; lia) | omega)) (Frag.In.keeps zX0 zF0.keep) (zT0.keeps zF0.keep) ?_)); intro zh' ztk' zv' zhk' zhv' zhtk'; (have zF' := zF0.keeps zhk'); (have zN' := zN0.grown zhk'); clear zF0 zN0; (dsimp only at zhtk'); (subst zhv')))
  k_with "call ref" => (((with_reducible show wpAny _ _ (call (Value.ref 64) _) _ _ _); (with_reducible rename Fr _ _ _ _ => zF0); (with_reducible rename News _ _ _ _ => zN0); (with_reducible rename Frag.In _ _ => zX0); (with_reducible rename Top _ _ _ _ _ _ => zT0); (refine wpAny_with_toks (n := _) (Nat.le_refl _) (lh_spec _ _ (by assumption) (by simp only [Around.deeper]; (first | (law_clear; lia) | omega)) (by simp only [Around.deeper]; (first | (law_clear; lia) | omega)) (Frag.In.keeps zX0 zF0.keep) (zT0.keeps zF0.keep) ?_)); intro zh' ztk' zv' zt' zhk' zhv' zhtk'; (have zF' := zF0.keeps zhk'); (have zN' := zN0.grown zhk'); clear zF0 zN0; (dsimp only at zhtk'); (subst zhv')))
  k_with "call ref" => (((with_reducible show wpAny _ _ (call (Value.ref 56) _) _ _ _); (with_reducible rename Fr _ _ _ _ => zF0); (with_reducible rename News _ _ _ _ => zN0); (with_reducible rename Frag.In _ _ => zX0); (with_reducible rename Top _ _ _ _ _ _ => zT0); (refine wpAny_with_toks (n := _) (Nat.le_refl _) (idx_spec _ _ _ _ ?i1 ?i2 ?i3 ?i4 ?i5 ?i6 (Frag.In.keeps zX0 zF0.keep) (zT0.keeps zF0.keep) ?_)); (case i1 => assumption); (case i2 => assumption); (case i3 => assumption); (case i4 => (first | (law_clear; lia) | omega)); (case i5 => (dsimp only; (first | (law_clear; lia) | omega))); (case i6 => (simp only [Around.deeper]; (first | (law_clear; lia) | omega))); intro zh' ztk' zv' zt' zhk' zhv' zhtk'; (have zF' := zF0.keeps zhk'); (have zN' := zN0.grown zhk'); clear zF0 zN0; (dsimp only at zhtk'); (subst zhv')))
  k_with "subscriptTail" => (((with_reducible show wpAny _ _ (subscriptTail _ (Expr.Slice none none (some _) _) (Value.bytes _ _) (Value.ref _)) _ _ _); (with_reducible rename Fr _ _ _ _ => zF'); (with_reducible rename News _ _ _ _ => zN'); (refine wpAny_with_toks (n := _) (Nat.le_refl _) (rev_K (s := ⟨_, _, _, _, _⟩) zF' zN' (by (first | (law_clear; lia) | omega)) ?_)); intro _ _ _ _ _ zhrt; (dsimp only at zhrt)))
  k_fill
  intro X
  (refine' enter ?X ?T ?k6 ?k7 ?k8 ?k9 ?kB ?_ ?c2 ?c3 ?c4 ?c5; (case X => assumption); (case T => assumption); (case k6 => k_is); (case k7 => k_is); (case k8 => (dsimp only [AA]; (first | (law_clear; lia) | omega))); (case k9 => first | exact BindsTo.of_eq rfl | exact binds_K (by k_in) rfl (by k_is) rfl rfl rfl); (case c5 => decide); (case kB => exact locs rfl); (case c2 => exact rfl); (case c3 => exact rfl); (case c4 => exact rfl))
  intro L h₁ F
  have N : News s.heap L h₁ [] := News.nil
  refine wpAny_execs_cons ?_
  refine wpAny_mono (Q := fun f s' => Kept (f = .next ∧ ∃ h' tk l u, s' = { s with heap := h', toks := tk } ∧ l = (if b.contains 66 then 66 else 67) ∧ @LT.lt Nat _ 0 u ∧ @LT.lt Nat _ u tk ∧ Fr s.heap L h' (fun y => if y = Str.ofString "letter" then some (.int l u) else List.lookup y [(Str.ofString "word", Value.bytes b t)]))) (E := noE) ?_ ?_ fun _ _ x => x
  · k_steps
    · refine ⟨by trivial, _, _, _, _, rfl, ?_, ?_, ?_, by assumption⟩
      · rw [if_pos (by assumption)]
      · dsimp only; (first | (law_clear; lia) | omega)
      · dsimp only; (first | (law_clear; lia) | omega)
    · refine ⟨by trivial, _, _, _, _, rfl, ?_, ?_, ?_, by assumption⟩
      · have h9 : ¬ b.contains 66 = true := by rw [show b.contains 66 = false by assumption]; exact Bool.false_ne_true
        rw [if_neg h9]
      · dsimp only; (first | (law_clear; lia) | omega)
      · dsimp only; (first | (law_clear; lia) | omega)
  rintro f s' ⟨rfl, h', tk, l, u, rfl, hl, hu0, hu1, F⟩
  dsimp only
  have N : News s.heap L h' [] := News.nil
  have hl0 : 0 ≤ l := by rw [hl]; split <;> decide
  have hl1 : l < 256 := by rw [hl]; split <;> decide
  have hl2 : l.toNat.toUInt8 ∈ b.reverse := by
    rw [hl, Array.mem_reverse]
    by_cases h9 : b.contains 66 = true
    · rw [if_pos h9]; exact Array.contains_iff.mp h9
    · rw [if_neg h9]
      exact hin.resolve_left fun q => h9 (Array.contains_iff.mpr q)
  refine wpAny_execs_cons ?_
  k_steps
  have he : ((b.reverse.toList.idxOf l.toNat.toUInt8 : Nat) : Int) = (endOf b).1 := by
    rw [Array.toList_reverse, hl]
    unfold endOf
    split <;> rfl
  rename News _ _ _ _ => NN
  rename Fr _ _ _ _ => FF
  have N1 := NN _ (List.Mem.head _)
  rw [he] at N1
  exact h _ _ _ _ _ FF.keep ⟨_, N1.1, rfl, _, rfl⟩ N1.2.2
end
section
open PySem PySem.W PyProof.Rows PySem.Calls
open Sem (wp)
set_option Elab.async false
set_option maxRecDepth 100000
theorem enterC {w : World} {A : Around} {Q E : Value → Shared → Prop} {s : Shared} {p : Program} {loose : List Str} {mean : ExcName → Option Value} {mg mb : Str → Option Value} {K : Frag}
    {name qual : Str} {params : Arguments} {body : List Stmt} {scope : Scope} {dV kV doc pm cdv ct oc : Value} {an od : Option Addr} {osl : Array (Option Value)} {f : Addr} {pos : List Value} {kw : List (Str × Value)} {binds : List (Str × Value)}
    (X : K.In s.heap) (T : Top p loose mean mg mb s.heap)
    (ho : K.lookup f = some ⟨oc, od, .func (fnOf name qual params body scope dV kV doc pm an cdv ct), osl⟩)
    (hcd : codeIn K cdv qual = true) (hroom : A.depth < recursionLimit)
    (hbind : BindsTo s (fnOf name qual params body scope dV kV doc pm an cdv ct) ⟨pos, kw⟩ binds)
    (hkind : (binds.all fun y => scope.names.lookup y.1 == some .local || scope.names.lookup y.1 == some .cell) = true)
    (hnd : ((cellsFrom 0 scope.names []).map (·.1)).Nodup)
    (h : ∀ L h₁ tk cells, Fr s.heap L h₁ (bindL (envOfC qual scope L f cdv).kindOf binds fun _ => none) → News s.heap L h₁ cells →
      CellsAre (bindC (envOfC qual scope L f cdv).kindOf binds fun _ => none) (cellsFrom (L + 1) scope.names []) cells →
      wpAny (model PySem.Challenge.rw_wn0101_01.row.prog w) (A.deeper (envOfC qual scope L f cdv)) (execs body (envOfC qual scope L f cdv))
        (fun fl s' => Q (match fl with | .ret v => v | _ => .none) s') (fun _ _ => False)
        { s with heap := h₁, toks := tk })
    (hco : scope.isCoroutine = false) (hgen : scope.isGenerator = false) (hk : scope.kind = .function) :
    wpAny (model PySem.Challenge.rw_wn0101_01.row.prog w) A (call (.ref f) pos kw) Q E s := by
  refine wpAny_call (codeAny_call_function hroom (X _ _ ho) rfl hco hgen rfl (codeRec_of X hcd) (hbind _ _ _ _ ?_))
  refine wpAny_newFunctionEnv_cells hk (kindsX hkind _) fun env' he s' x => ?_
  subst he
  refine ⟨T.nolimit.keeps x.toInCall.keep, codeAny_func ?_⟩
  obtain ⟨h₁, tk, rfl, _⟩ := x.done
  have hk₁ := x.toInCall.keep
  obtain ⟨cells, NC, Y⟩ := Cl.news (h₀ := s.heap) (Nat.le_refl _) fun n c hm => ⟨x.cell n c (lookup_of_mem_nodup (cellsFrom_names scope.names 0 (s.heap.objs.size + 1) [] [] rfl ▸ hnd) hm), x.above n c hm⟩
  exact wpAny_mono (h s.heap.objs.size h₁ tk cells ⟨x.toInCall.ns, hk₁, Nat.le_refl _⟩ NC Y) (fun _ _ y => y) fun _ _ y => y.elim
end
section
open PySem PySem.W PyProof.Rows PySem.Calls
open Sem (wp)
set_option Elab.async false
set_option maxRecDepth 100000
/-- what a turn of a comprehension leaves: all but its names' dict stands; R is told of what is new or of the ground -/
noncomputable def ElPost (g : Heap) (L C : Addr) (h : Heap) (s₂ : Shared) (R : Heap → Prop) (s₅ : Shared) : Prop :=
  ∃ h' tk' m', s₅ = { s₂ with heap := h', toks := tk' } ∧ Fr g C h' m' ∧ (∀ b o, b ≠ C → h.get? b = some o → h'.get? b = some o) ∧
    ∀ h'' : Heap, (∀ b o, (h.get? b = none ∨ ∃ o', g.get? b = some o') → b ≠ L → h'.get? b = some o → h''.get? b = some o) → R h''

section
variable {prog : Program} {w : World} {A : Around} {E : Value → Shared → Prop} {env : Env}

noncomputable abbrev testsOf (ifs : List Expr) (cenv : Env) : Sem Bool :=
  forIn ifs true fun c r => if r = true then do let ok ← isTrue c cenv (eval c cenv); pure (ForInStep.yield ok) else pure (ForInStep.yield r)

noncomputable abbrev CompElem (prog : Program) (w : World) (A : Around) (g : Heap) (s₂ : Shared) (n : Nat) (P : Nat → Value → Prop) (p : Nat → Bool) (RR : Nat → Value → Heap → Prop) (target elt : Expr) (ifs : List Expr) (scope : Scope) (cl : List (Str × Addr)) (env : Env) : Prop :=
  ∀ i v C h tk m, i < n → P i v → s₂.toks ≤ tk → Fr g C h m → (∀ b o, g.get? b = some o → h.get? b = some o) →
    ∀ all, News g C h all → (∀ b o, b ≠ C → h.get? b = some o → g.get? b = some o ∨ (b, o) ∈ all) →
    wpAny (model prog w) A (assign target (compEnvC scope cl C env) v) (fun _ s₃ => wpAny (model prog w) A (testsOf ifs (compEnvC scope cl C env)) (fun ok s₄ =>
      if ok = true then p i = true ∧ wpAny (model prog w) A (eval elt (compEnvC scope cl C env)) (fun y s₅ => Kept (ElPost g env.locals C h s₂ (RR i y) s₅)) noE s₄
      else Kept (p i = false ∧ ElPost g env.locals C h s₂ (fun _ => True) s₄)) noE s₃) noE { s₂ with heap := h, toks := tk }

theorem none_of_le {h : Heap} {a : Addr} (ha : @LE.le Nat _ h.objs.size a) : h.get? a = none := by
  cases e : h.get? a with
  | none => rfl
  | some o' => exact absurd (Heap.lt_size e) (Nat.not_lt.mpr ha)

/-- all that stands beside the ground and a frame, as a ledger -/
theorem all_of (g h : Heap) (C : Addr) : ∃ all, News g C h all ∧ ∀ b o, b ≠ C → h.get? b = some o → g.get? b = some o ∨ (b, o) ∈ all ∨ (g.get? b).isSome = true := by
  refine ⟨(List.range h.objs.size).filterMap fun a => if a = C ∨ (g.get? a).isSome = true then none else (h.get? a).map fun o => (a, o), fun p hp => ?_, fun b o hb e => ?_⟩
  · obtain ⟨a, _, e⟩ := List.mem_filterMap.mp hp
    by_cases hc : a = C ∨ (g.get? a).isSome = true
    · rw [if_pos hc] at e; cases e
    · rw [if_neg hc] at e
      cases q : h.get? a with
      | none => rw [q] at e; cases e
      | some o =>
        rw [q] at e
        cases e
        refine ⟨q, fun r => hc (.inl r), ?_⟩
        cases z : g.get? a with
        | none => rfl
        | some o' => exact absurd (.inr (by rw [z]; rfl)) hc
  · by_cases z : (g.get? b).isSome = true
    · exact .inr (.inr z)
    · refine .inr (.inl (List.mem_filterMap.mpr ⟨b, List.mem_range.mpr (Heap.lt_size e), ?_⟩))
      rw [if_neg (by rintro (r | r); exact hb r; exact z r), e]
      rfl
theorem all_ex {g h : Heap} {C : Addr} (hk : ∀ b o, g.get? b = some o → h.get? b = some o) : ∃ all, News g C h all ∧ ∀ b o, b ≠ C → h.get? b = some o → g.get? b = some o ∨ (b, o) ∈ all := by
  obtain ⟨all, N, H⟩ := all_of g h C
  refine ⟨all, N, fun b o hb e => ?_⟩
  rcases H b o hb e with q | q | q
  · exact .inl q
  · exact .inr q
  · cases z : g.get? b with
    | none => rw [z] at q; cases q
    | some o' =>
      have := hk b o' z
      rw [e] at this
      cases this
      exact .inl rfl
theorem keeps_all {g h h' : Heap} {C : Addr} {m' : Str → Option Value} {all news' : List (Addr × Obj)} (H : ∀ b o, b ≠ C → h.get? b = some o → g.get? b = some o ∨ (b, o) ∈ all) (F' : Fr g C h' m') (N' : News g C h' news') (hs : ∀ p ∈ all, p ∈ news') :
    ∀ b o, b ≠ C → h.get? b = some o → h'.get? b = some o := fun b o hb e => (H b o hb e).elim (F'.keep b o) fun q => (N' _ (hs _ q)).1

theorem go_name {P : Nat → Value → Prop} {St : Nat → Heap → Prop} {x : Str} {p : Pos} {I : Addr} : ∀ i v s (Q : Unit → Shared → Prop) E, P i v → St (i + 1) s.heap → Q () s → wpAny (model prog w) A (letOwnedTupleGo (.Name x p) (.ref I) v) Q E s := fun _ _ _ _ _ _ _ h => wpAny_pure h
/-- the turns of a list comprehension, any target -/
theorem compLoop_go {s : Shared} {R : Result → Shared → Prop} {elt target iter : Expr} {ifs : List Expr} {scope : Scope} {pos : Pos} {it acc : Value} {env : Env} (J : Nat → Shared → Prop)
    (turn : ∀ n s, J n s → ∀ K : Shared → Prop, (∀ m s', m < n → J m s' → K s') → ∀ R' : Shared → Prop, (∀ s', R (.ok .next) s' → R' s') → wpAny (model prog w) A (pyNext it) (fun r s₁ => match r with
      | none => R' s₁
      | some v => wpAny (model prog w) A (letOwnedTupleGo target it v) (fun _ s₀ => wpAny (model prog w) A (assign target env v) (fun _ s₂ => wpAny (model prog w) A (testsOf ifs env) (fun ok s₃ =>
            if ok = true then wpAny (model prog w) A (eval elt env) (fun x s₄ => wpAny (model prog w) A (call (.builtin "list.append") [acc, x]) (fun _ s₅ => K s₅) noE s₄) noE s₃
            else K s₃) noE s₂) noE s₀) noE s₁) noE s)
    (n : Nat) (h : J n s) : codeAny (model prog w) A (.compLoop (.ListComp elt [⟨target, iter, ifs, 0⟩] scope pos) 0 it acc env) R s := by
  refine codeAny_loop rfl J (fun n s hJ => ?_) n h
  show wpAny _ A ((compTurn (.ListComp elt [⟨target, iter, ifs, 0⟩] scope pos) 0 it acc env).onRaise (fun x => do noteFrame x env; theTreesLotGoes x)) _ _ s
  refine wpAny_noted ?_
  rw [compTurn_list]
  refine wpAny_bind (wpAny_standAt (wpAny_bind (wpAny_mono (turn n s hJ (fun s' => ∃ m, m < n ∧ J m s') (fun m s' a b => ⟨m, a, b⟩) (R (.ok .next)) fun _ q => q) (fun r s₁ h₁ => ?_) fun _ _ e => e.elim)))
  cases r with
  | none => exact wpAny_pure h₁
  | some v =>
    refine wpAny_bind (wpAny_mono h₁ (fun _ s₀ h₀ => wpAny_bind (wpAny_mono h₀ (fun _ s₂ h₂ => wpAny_bind (wpAny_mono h₂ (fun ok s₃ h₃ => ?_) fun _ _ e => e.elim)) fun _ _ e => e.elim)) fun _ _ e => e.elim)
    cases ok with
    | false => exact wpAny_pure ⟨rfl, h₃⟩
    | true => exact wpAny_bind (wpAny_bind (wpAny_mono h₃ (fun x s₄ h₄ => wpAny_bind (wpAny_mono h₄ (fun _ s₅ h₅ => wpAny_pure (wpAny_pure ⟨rfl, h₅⟩)) fun _ _ e => e.elim)) fun _ _ e => e.elim))

theorem comp_block {elt target iter : Expr} {ifs : List Expr} {scope : Scope} {cl : List (Str × Addr)} {pos : Pos} {s₂ : Shared} {I : Addr} {fp wr : List Addr} {n : Nat} {P : Nat → Value → Prop}
    {St : Nat → Heap → Prop} (W : Walks prog w A I fp wr n P St) (hsz : n ≤ sizeLine) {U : Value → Addr → Result → Shared → Prop}
    (hcell : ∀ y ∈ scope.names, y.2 ≠ .cell) (hkind : scope.kind = .function) (hst : St 0 s₂.heap) (hfp : ∀ b ∈ fp, b < s₂.heap.objs.size)
    (g : Heap) (hg : ∀ b o, g.get? b = some o → s₂.heap.get? b = some o) (hgw : ∀ b ∈ wr, g.get? b = none) (hlive : ∀ i h, St i h → ∀ b ∈ wr, ∃ o, h.get? b = some o) (hgz : @LE.le Nat _ g.objs.size s₂.heap.objs.size)
    (p : Nat → Bool) (RR : Nat → Value → Heap → Prop) (ht : ∀ i v s (Q : Unit → Shared → Prop) E, P i v → St (i + 1) s.heap → Q () s → wpAny (model prog w) A (letOwnedTupleGo target (.ref I) v) Q E s)
    (elem : CompElem prog w A g s₂ n P p RR target elt ifs scope cl env)
    (fin : ∀ D C h' tk m' ys, s₂.heap.get? D = none → s₂.heap.get? C = none → D ≠ C → h'.Ns C m' → h'.PlainList D ys →
      Paired (fun j y => ∀ h'' : Heap, (∀ b o, b ≠ env.locals → b ≠ C → b ≠ D → b ∉ wr → h'.get? b = some o → h''.get? b = some o) → RR j y h'') ((List.range n).filter p) ys.toList →
      (∀ b o, b ∉ wr → s₂.heap.get? b = some o → h'.get? b = some o) → U (.ref D) C (.ok .next) { s₂ with heap := h', toks := tk }) :
    wpAny (model prog w) A (newList []) (fun acc s₃ => wpAny (model prog w) A (newFunctionEnv scope env.globals cl [] env.qual none .none (some env)) (fun cenv s₄ =>
      codeAny (model prog w) A (.compStart (.ListComp elt [⟨target, iter, ifs, 0⟩] scope pos) 0 (.ref I) acc { cenv with scope := relabel scope env }) (U acc cenv.locals) s₄) E s₃) E s₂ := by
  refine wpAny_newObj_type (wpAny_newFunctionEnv hcell (by intro y hy; simp at hy) (fun h₁ hns₁ hsb₁ => ?_) hkind)
  dsimp only at hns₁ hsb₁ ⊢
  generalize hH2 : s₂.heap.push { cls := .type "list", dict := none, data := .seq ([] : List Value).toArray } = H2 at hns₁ hsb₁ ⊢
  have hC : H2.objs.size = s₂.heap.objs.size + 1 := by rw [← hH2, Heap.size_push]
  have hDC : s₂.heap.objs.size ≠ H2.objs.size := by rw [hC]; exact Nat.ne_of_lt (Nat.lt_succ_self _)
  have below : ∀ b, b < s₂.heap.objs.size → b ≠ H2.objs.size ∧ b ≠ s₂.heap.objs.size := fun b hb => ⟨by rw [hC]; exact Nat.ne_of_lt (Nat.lt_succ_of_lt hb), Nat.ne_of_lt hb⟩
  have hDf : s₂.heap.objs.size ∉ fp := fun hm => Nat.lt_irrefl _ (hfp _ hm)
  have hCf : H2.objs.size ∉ fp := fun hm => by have := hfp _ hm; rw [hC] at this; exact Nat.lt_irrefl _ (Nat.lt_of_succ_lt this)
  have old : ∀ b o, s₂.heap.get? b = some o → h₁.get? b = some o := fun b o e => hsb₁.extBut b o (below b (Heap.lt_size e)).1 (Heap.get?_push_of_some _ (hH2 ▸ Heap.get?_push_of_some _ e))
  have hacc : h₁.PlainList s₂.heap.objs.size #[] := ⟨_, hsb₁.extBut _ _ hDC (Heap.get?_push_of_some _ (hH2 ▸ Heap.get?_push_size _ rfl))⟩
  have hst₁ : St 0 h₁ := W.frame _ _ _ hst fun b _ o e => old b o e
  have hCw : H2.objs.size ∉ wr := fun h => hCf (W.sub _ h)
  have hDw : s₂.heap.objs.size ∉ wr := fun h => hDf (W.sub _ h)
  have hs2C : s₂.heap.get? H2.objs.size = none := none_of_le (by rw [hC]; exact Nat.le_succ _)
  have hs2D : s₂.heap.get? s₂.heap.objs.size = none := none_of_le (Nat.le_refl _)
  have hgC : g.get? H2.objs.size = none := none_of_le (by rw [hC]; exact Nat.le_succ_of_le hgz)
  have hgD : g.get? s₂.heap.objs.size = none := none_of_le hgz
  generalize hDD : s₂.heap.objs.size = D at hacc hDf hDw hs2D hgD hDC
  have F₁ : Fr g H2.objs.size h₁ (fun x => ([] : List (Str × Value)).reverse.lookup x) := ⟨hns₁, fun b o e => old b o (hg b o e), by rw [hC]; exact Nat.le_succ_of_le hgz⟩
  generalize hCC : H2.objs.size = C at *
  have loop : ∀ s₃ : Shared, s₃ = { s₂ with heap := h₁, toks := s₂.toks + ([] : List (Str × Value)).length } →
      codeAny (model prog w) A (.compLoop (.ListComp elt [⟨target, iter, ifs, 0⟩] scope pos) 0 (.ref I) (.ref D) (compEnvC scope cl C env))
        (U (.ref D) C) s₃ := by
    rintro s₃ rfl
    refine compLoop_go (fun k s' => ∃ i h tk m ys, s' = { s₂ with heap := h, toks := tk } ∧ s₂.toks ≤ tk ∧ i ≤ n ∧ St i h ∧ Fr g C h m ∧ h.PlainList D ys ∧
      Paired (fun j y => ∀ h'' : Heap, (∀ b o, b ≠ env.locals → b ≠ C → b ≠ D → b ∉ wr → h.get? b = some o → h''.get? b = some o) → RR j y h'') ((List.range i).filter p) ys.toList ∧
      (∀ b o, b ∉ wr → s₂.heap.get? b = some o → h.get? b = some o) ∧ k = n - i) ?_ n ⟨0, h₁, _, _, #[], rfl, Nat.le_add_right _ _, Nat.zero_le _, hst₁, F₁, hacc, by simpa using Paired.nil, fun b o _ e => old b o e, rfl⟩
    rintro k s' ⟨i, h, tk, m, ys, rfl, htk, hi, hst, F, hpl, hpr, hk, rfl⟩ K hK R' hR'
    by_cases hin : i = n
    · subst hin
      refine W.done _ _ _ hst fun h' tk' hk' => ?_
      refine hR' _ ?_
      refine fin D C h' tk' m ys hs2D hs2C hDC (F.ns.at' fun o e => hk' _ o hCw e) (hpl.at fun o e => hk' _ o hDw e) (hpr.mono fun j y hR h'' hh => ?_) fun b o hb e => hk' b o hb (hk b o hb e)
      exact hR h'' fun b o h0 h1 h2 h3 e => hh b o h0 h1 h2 h3 (hk' b o h3 e)
    · have hlt : i < n := Nat.lt_of_le_of_ne hi hin
      clear hin
      refine wpAny_with_toks (n := s₂.toks) htk (W.item i _ _ _ hlt hst fun v h' tk' hP hst' hk' => ?_)
      intro htk'
      have F' : Fr g C h' m := ⟨F.ns.at' fun o e => hk' _ o hCw e, fun b o e => hk' b o (fun q => by rw [hgw b q] at e; cases e) (F.keep b o e), F.above⟩
      have hpl' : h'.PlainList D ys := hpl.at fun o e => hk' _ o hDw e
      have hys : ys.size ≤ sizeLine := by
        have e1 := hpr.length
        have e2 := List.length_filter_le p (List.range i)
        rw [List.length_range] at e2
        have e3 : ys.toList.length = ys.size := Array.length_toList
        (first | (law_clear; lia) | omega)
      have hpr' := hpr.mono (F' := fun j y => ∀ h'' : Heap, (∀ b o, b ≠ env.locals → b ≠ C → b ≠ D → b ∉ wr → h'.get? b = some o → h''.get? b = some o) → RR j y h'') (fun j y hR h'' hh => hR h'' fun b o h0 h1 h2 h3 e => hh b o h0 h1 h2 h3 (hk' b o h3 e))
      have hkk : ∀ b o, b ∉ wr → s₂.heap.get? b = some o → h'.get? b = some o := fun b o hb e => hk' b o hb (hk b o hb e)
      obtain ⟨oD, hoD⟩ := id hpl'
      obtain ⟨oC, _, _, hoC, _⟩ := id F'.ns
      have step : ∀ (pi : Bool) (h₅ : Heap) (tk₅ : Nat) (m₅ : Str → Option Value) (ys₅ : Array Value), p i = pi → s₂.toks ≤ tk₅ → Fr g C h₅ m₅ → (∀ b o, b ≠ C → b ≠ D → h'.get? b = some o → h₅.get? b = some o) → h₅.PlainList D ys₅ →
          Paired (fun j y => ∀ h'' : Heap, (∀ b o, b ≠ env.locals → b ≠ C → b ≠ D → b ∉ wr → h₅.get? b = some o → h''.get? b = some o) → RR j y h'') ((List.range (i + 1)).filter p) ys₅.toList →
          K { s₂ with heap := h₅, toks := tk₅ } := by
        intro pi h₅ tk₅ m₅ ys₅ _ ht5 F5 hk5 hp5 hr5
        refine hK (n - (i + 1)) _ (Nat.sub_succ_lt_self _ _ hlt) ⟨i + 1, h₅, tk₅, m₅, ys₅, rfl, ht5, hlt, W.frame _ _ _ hst' fun b hb o e => hk5 b o (fun q => hCf (q ▸ hb)) (fun q => hDf (q ▸ hb)) e, F5, hp5, hr5, fun b o hb e => hk5 b o (fun q => ?_) (fun q => ?_) (hkk b o hb e), rfl⟩
        · rw [q, hs2C] at e; cases e
        · rw [q, hs2D] at e; cases e
      obtain ⟨all, Nall, Hall⟩ := all_ex (C := C) F'.keep
      refine ht i v _ _ _ hP hst' ?_
      refine noE_toks htk' (elem i v C h' tk' m hlt hP htk' F' F'.keep all Nall Hall) fun _ s₃ t₃ h₃ => ?_
      refine noE_toks t₃ h₃ fun ok s₄ t₄ h₄ => ?_
      cases ok with
      | false =>
        rw [if_neg Bool.false_ne_true] at h₄ ⊢
        obtain ⟨hpi, h₅, tk₅, m₅, rfl, F5, hk5, _⟩ := h₄.out
        refine step false h₅ tk₅ m₅ ys hpi t₄ F5 (fun b o h1 _ e => hk5 b o h1 e) (hpl'.at fun o e => hk5 D o hDC e) ?_
        rw [List.range_succ, List.filter_append]
        have : [i].filter p = [] := by simp [hpi]
        rw [this, List.append_nil]
        exact hpr'.mono fun j y hR h'' hh => hR h'' fun b o h0 h1 h2 h3 e => hh b o h0 h1 h2 h3 (hk5 b o h1 e)
      | true =>
        rw [if_pos rfl] at h₄ ⊢
        obtain ⟨hpi, h₄⟩ := h₄
        refine noE_toks t₄ h₄ fun y s₅ t₅ h₅' => ?_
        obtain ⟨h₅, tk₅, m₅, rfl, F5, hk5, hRn⟩ := h₅'.out
        have hpl5 : h₅.PlainList D ys := hpl'.at fun o e => hk5 D o hDC e
        refine wpAny_with_toks (n := s₂.toks) t₅ (wpAny_list_append_plain (hsz := hys) hpl5 fun h₆ hpl₆ hs₆ => ?_)
        intro t₆
        replace hs₆ : Heap.SameBut D h₅ h₆ := hs₆
        have F6 : Fr g C h₆ m₅ := ⟨F5.ns.sameBut hs₆ (Ne.symm hDC), fun b o e => hs₆.extBut b o (fun q => by rw [q, hgD] at e; cases e) (F5.keep b o e), F5.above⟩
        refine step true h₆ tk₅ m₅ (ys.push y) hpi t₅ F6 (fun b o h1 h2 e => hs₆.extBut b o h2 (hk5 b o h1 e)) hpl₆ ?_
        rw [List.range_succ, List.filter_append, Array.toList_push]
        have : [i].filter p = [i] := by simp [hpi]
        rw [this]
        refine Paired.snoc (hpr'.mono fun j y hR h'' hh => hR h'' fun b o h0 h1 h2 h3 e => hh b o h0 h1 h2 h3 (hs₆.extBut b o h2 (hk5 b o h1 e))) ?_
        intro h'' hh
        refine hRn h'' fun b o hb hbL e => ?_
        have hbC : b ≠ C := by
          rintro rfl
          rcases hb with hb | ⟨o', hb⟩
          · rw [hoC] at hb; cases hb
          · rw [hgC] at hb; cases hb
        have hbD : b ≠ D := by
          rintro rfl
          rcases hb with hb | ⟨o', hb⟩
          · rw [hoD] at hb; cases hb
          · rw [hgD] at hb; cases hb
        have hbw : b ∉ wr := by
          intro q
          rcases hb with hb | ⟨o', hb⟩
          · obtain ⟨o', ho'⟩ := hlive _ _ hst' b q
            rw [ho'] at hb; cases hb
          · rw [hgw b q] at hb; cases hb
        exact hh b o hbL hbC hbD hbw (hs₆.extBut b o hbD e)
  exact codeAny_compStart_list (loop _ rfl) (W.self 0 _ _ _ hst₁ (loop _ rfl))

/-- a list comprehension as an expression -/
theorem ListComp_my {s : Shared} {elt target iter : Expr} {ifs : List Expr} {scope : Scope} {cl : List (Str × Addr)} {pos : Pos} {Q : Value → Shared → Prop}
    (hclos : closureFor scope env = pure cl) (hcell : ∀ y ∈ scope.names, y.2 ≠ .cell) (hkind : scope.kind = .function)
    (hnames : ∀ y ∈ scope.names, y.2 = .local → scope.names.lookup y.1 = some .local)
    (h : wpAny (model prog w) A (eval iter env) (fun xv s₁ => wpAny (model prog w) A (pyIter xv) (fun it s₂ => Kept (∃ (I : Addr) (fp wr : List Addr) (n : Nat) (P : Nat → Value → Prop) (St : Nat → Heap → Prop) (p : Nat → Bool) (RR : Nat → Value → Heap → Prop),
      it = .ref I ∧ Walks prog w A I fp wr n P St ∧ n ≤ sizeLine ∧ St 0 s₂.heap ∧ (∀ b ∈ fp, b < s₂.heap.objs.size) ∧ (∀ b o, s₁.heap.get? b = some o → s₂.heap.get? b = some o) ∧ (∀ b ∈ wr, s₁.heap.get? b = none) ∧ @LE.le Nat _ s₁.heap.objs.size s₂.heap.objs.size ∧
      (∀ i h, St i h → ∀ b ∈ wr, ∃ o, h.get? b = some o) ∧ (∀ i v s (Q : Unit → Shared → Prop) E, P i v → St (i + 1) s.heap → Q () s → wpAny (model prog w) A (letOwnedTupleGo target (.ref I) v) Q E s) ∧
      CompElem prog w A s₁.heap s₂ n P p RR target elt ifs scope cl env ∧
      (∀ D h' tk ys, s₂.heap.get? D = none → h'.PlainList D ys → Paired (fun j y => RR j y h') ((List.range n).filter p) ys.toList →
        (∀ b o, s₁.heap.get? b = some o → h'.get? b = some o) → Q (.ref D) { s₂ with heap := h', toks := tk }))) noE s₁) noE s)
    (hs : ∀ x, foldedSetIterable iter env x = pure x) :
    wpAny (model prog w) A (eval (.ListComp elt [⟨target, iter, ifs, 0⟩] scope pos) env) Q E s := by
  rw [eval_ListComp]
  refine noE_up (wpAny_comprehension_free (use := none) rfl hs hclos hkind hnames (wpAny_mono h (fun xv s₁ h₁ => wpAny_mono h₁ (fun it s₂ h₂ => ?_) fun _ _ e => e) fun _ _ e => e))
  obtain ⟨I, fp, wr, n, P, St, p, RR, rfl, W, hsz, hst, hfp, hg, hgw, hgz, hlive, ht, elem, hQ⟩ := h₂.out
  refine comp_block (U := fun acc C => compPost (model prog w) A noE none Q acc C) W hsz hcell hkind hst hfp s₁.heap hg hgw hlive hgz p RR ht elem ?_
  intro D C h' tk m' ys hD hC hDC hn hpl hpr hk
  refine ⟨m', hn, fun h'' hs'' => hQ D h'' tk ys hD (hpl.at fun o e => hs''.extBut D o hDC e) (hpr.mono fun j y hR => hR h'' fun b o _ h1 _ _ e => hs''.extBut b o h1 e) fun b o e => hs''.extBut b o (fun q => ?_) (hk b o (fun q => ?_) (hg b o e))⟩
  · have := hg b o e; rw [q, hC] at this; cases this
  · rw [hgw b q] at e; cases e

/-- a list comprehension whose list is kept under a name -/
theorem Assign_ListComp_my {s : Shared} {elt target iter : Expr} {y : Str} {py : Pos} {ifs : List Expr} {scope : Scope} {cl : List (Str × Addr)} {pos spos : Pos} {Q : Flow → Shared → Prop}
    (hsw : swapsWith (.ListComp elt [⟨target, iter, ifs, 0⟩] scope pos) (some (.Name y py)) spos.line env = pure true)
    (hclos : closureFor scope env = pure cl) (hcell : ∀ y ∈ scope.names, y.2 ≠ .cell) (hkind : scope.kind = .function)
    (hnames : ∀ y ∈ scope.names, y.2 = .local → scope.names.lookup y.1 = some .local)
    (hy : env.kindOf y = some .local) (hp : (env.scope.kind == .class || (env.scope.kind == .module && env.locals != env.globals)) = false)
    (h : wpAny (model prog w) A (eval iter env) (fun xv s₁ => wpAny (model prog w) A (pyIter xv) (fun it s₂ => Kept (∃ (I : Addr) (fp wr : List Addr) (n : Nat) (P : Nat → Value → Prop) (St : Nat → Heap → Prop) (p : Nat → Bool) (RR : Nat → Value → Heap → Prop) (m : Str → Option Value),
      it = .ref I ∧ Walks prog w A I fp wr n P St ∧ n ≤ sizeLine ∧ St 0 s₂.heap ∧ (∀ b ∈ fp, b < s₂.heap.objs.size) ∧ (∀ b o, s₁.heap.get? b = some o → s₂.heap.get? b = some o) ∧ (∀ b ∈ wr, s₁.heap.get? b = none) ∧ @LE.le Nat _ s₁.heap.objs.size s₂.heap.objs.size ∧
      (∀ i h, St i h → ∀ b ∈ wr, ∃ o, h.get? b = some o) ∧ (∀ i v s (Q : Unit → Shared → Prop) E, P i v → St (i + 1) s.heap → Q () s → wpAny (model prog w) A (letOwnedTupleGo target (.ref I) v) Q E s) ∧ s₁.heap.Ns env.locals m ∧
      CompElem prog w A s₁.heap s₂ n P p RR target elt ifs scope cl env ∧
      (∀ D h' tk ys, s₂.heap.get? D = none → h'.PlainList D ys → Paired (fun j y => ∀ h'' : Heap, (∀ b o, b ≠ env.locals → h'.get? b = some o → h''.get? b = some o) → RR j y h'') ((List.range n).filter p) ys.toList →
        h'.Ns env.locals (fun z => if z = y then some (.ref D) else m z) → (∀ b o, b ≠ env.locals → s₁.heap.get? b = some o → h'.get? b = some o) → Q .next { s₂ with heap := h', toks := tk }))) noE s₁) noE s)
    (hs : ∀ x, foldedSetIterable iter env x = pure x) :
    wpAny (model prog w) A (exec (.Assign [.Name y py] (.ListComp elt [⟨target, iter, ifs, 0⟩] scope pos) spos) env) Q E s := by
  rw [exec_Assign_Name_used _ _ _ _ hsw]
  refine wpAny_bind (wpAny_standAt (wpAny_bind ?_))
  show wpAny _ A (do let _ ← comprehension (.ListComp elt [⟨target, iter, ifs, 0⟩] scope pos) scope env _ (newList []) false (eval iter env) (some (assign (.Name y py) env))) _ _ s
  refine wpAny_bind (noE_up (wpAny_mono (wpAny_comprehension_free (use := some (assign (.Name y py) env)) (Q := fun _ s' => Q .next s') rfl hs hclos hkind hnames
    (wpAny_mono h (fun xv s₁ h₁ => wpAny_mono h₁ (fun it s₂ h₂ => ?_) fun _ _ e => e) fun _ _ e => e)) (fun _ s' hq => wpAny_pure (wpAny_pure hq)) fun _ _ e => e))
  obtain ⟨I, fp, wr, n, P, St, p, RR, m, rfl, W, hsz, hst, hfp, hg, hgw, hgz, hlive, ht, hm, elem, hQ⟩ := h₂.out
  refine comp_block (U := fun acc C => compPost (model prog w) A noE (some (assign (.Name y py) env)) (fun _ s' => Q .next s') acc C) W hsz hcell hkind hst hfp s₁.heap hg hgw hlive hgz p RR ht elem ?_
  intro D C h' tk m' ys hD hC hDC hnC hpl hpr hk
  obtain ⟨oL, esL, epL, hoL, hmL⟩ := id hm
  have hLC : env.locals ≠ C := by rintro q; have := hg _ _ hoL; rw [q, hC] at this; cases this
  have hLD : env.locals ≠ D := by rintro q; have := hg _ _ hoL; rw [q, hD] at this; cases this
  have hLw : env.locals ∉ wr := fun q => by rw [hgw _ q] at hoL; cases hoL
  show wpAny _ A (assign (.Name y py) env (.ref D)) _ _ _
  refine wpAny_assign_Name (wpAny_storeName_local hy (hm.at' fun o e => hk _ o hLw (hg _ _ e)) (fun h₂ hn₂ hs₂ => ?_) hp)
  replace hs₂ : Heap.SameBut env.locals h' h₂ := hs₂
  refine ⟨m', hnC.sameBut hs₂ (Ne.symm hLC), fun h₃ hs₃ => ?_⟩
  replace hs₃ : Heap.SameBut C h₂ h₃ := hs₃
  refine hQ D h₃ _ ys hD (hpl.at fun o e => hs₃.extBut D o hDC (hs₂.extBut D o (Ne.symm hLD) e)) (hpr.mono fun j y hR h4 hh => hR h4 fun b o h0 h1 h2 h3 e => hh b o h0 (hs₃.extBut b o h1 (hs₂.extBut b o h0 e))) (hn₂.sameBut hs₃ hLC) fun b o hbL e => hs₃.extBut b o (fun q => ?_) (hs₂.extBut b o hbL (hk b o (fun q => ?_) (hg b o e)))
  · have := hg b o e; rw [q, hC] at this; cases this
  · rw [hgw b q] at e; cases e

theorem nm_loc {M : Model} {s : Shared} {g : Heap} {x : Str} {pos : Pos} {v : Value} {m : Str → Option Value} {Q : Value → Shared → Prop} (F : Fr g env.locals s.heap m) (hk : env.scope.kind = .function) (hl : env.kindOf x = some .local) (hv : m x = some v) (h : Q v s) (hd : (x == ("__debug__" : Str)) = false) :
    wpAny M A (eval (.Name x pos) env) Q E s := wpAny_Name (wpAny_loadName_local hk hl F.ns hv h) hd
theorem nm_cell {M : Model} {s : Shared} {g : Heap} {L c : Addr} {o : Obj} {x : Str} {pos : Pos} {v : Value} {m : Str → Option Value} {Q : Value → Shared → Prop} (F : Fr g L s.heap m) (hk : env.scope.kind = .function) (hl : env.kindOf x = some .cell) (hc : env.cells.lookup x = some c)
    (ho : g.get? c = some o) (hd : o.data = .cell (some v)) (h : Q v s) (hb : (x == ("__debug__" : Str)) = false) : wpAny M A (eval (.Name x pos) env) Q E s := wpAny_Name (wpAny_loadName_cell hk hl hc ⟨o, F.keep _ _ ho, hd⟩ h) hb
theorem st_any {M : Model} {s : Shared} {g : Heap} {x : Str} {v : Value} {m : Str → Option Value} {news : List (Addr × Obj)} {Q : Unit → Shared → Prop} (F : Fr g env.locals s.heap m) (N : News g env.locals s.heap news) (hl : env.kindOf x = some .local)
    (hp : (env.scope.kind == .class || (env.scope.kind == .module && env.locals != env.globals)) = false)
    (h : ∀ h', Fr g env.locals h' (fun y => if y = x then some v else m y) → News g env.locals h' news → Q () { s with heap := h', toks := s.toks + 1 }) : wpAny M A (storeName env x v) Q E s :=
  wpAny_storeName_local hl F.ns (fun h' hn hs => h h' (F.set hn hs) (N.set hs)) hp
end
end
section
open PySem PySem.W PyProof.Rows PySem.Calls
open Sem (wp)
set_option Elab.async false
set_option maxRecDepth 100000
/-- what an iteration's source gives -/
structure Src (prog : Program) (w : World) (A : Around) (h h₂ : Heap) (I : Addr) (fp wr : List Addr) (n : Nat) (P : Nat → Value → Prop) (St : Nat → Heap → Prop) : Prop where
  walks : Walks prog w A I fp wr n P St
  start : St 0 h₂
  lt : ∀ b ∈ fp, b < h₂.objs.size
  keep : ∀ b o, h.get? b = some o → h₂.get? b = some o
  new : ∀ b ∈ wr, h.get? b = none
  size : @LE.le Nat _ h.objs.size h₂.objs.size
  live : ∀ i h, St i h → ∀ b ∈ wr, ∃ o, h.get? b = some o
section
variable {prog : Program} {w : World} {A : Around}
theorem tuple_src (hh : A.handled = none) {h : Heap} {ax : Addr} {items : Array Value} (hl : h.IsTuple ax items) :
    Src prog w A h (h.push { cls := .type "tuple_iterator", data := .fields #[.ref ax, .int 0 0] }) h.objs.size [h.objs.size, ax] [h.objs.size] items.size (fun i v => items[i]? = some v) (fun i h' => h'.IsTupleIter h.objs.size ax i ∧ h'.IsTuple ax items) := by
  obtain ⟨o, ho, r⟩ := id hl
  have hlt : @LT.lt Nat _ ax h.objs.size := Heap.lt_size ho
  refine ⟨Walks.tuple hh _ _ (Nat.ne_of_lt hlt) _, ⟨⟨_, Heap.get?_push_size _ rfl, rfl, rfl⟩, ⟨o, Heap.get?_push_of_some _ ho, r⟩⟩, fun b hb => ?_, fun b o e => Heap.get?_push_of_some _ e, fun b hb => ?_, ?_, fun i h' st b hb => ?_⟩
  · rw [Heap.size_push]
    rcases List.mem_cons.mp hb with rfl | hb
    · exact Nat.lt_succ_self _
    · rw [List.mem_singleton.mp hb]; exact Nat.lt_succ_of_lt hlt
  · rw [List.mem_singleton.mp hb]; exact none_of_le (Nat.le_refl _)
  · rw [Heap.size_push]; exact Nat.le_succ _
  · rw [List.mem_singleton.mp hb]; obtain ⟨⟨o', ho', _⟩, _⟩ := st; exact ⟨o', ho'⟩
theorem list_src (hh : A.handled = none) {h : Heap} {ax : Addr} {items : Array Value} (hl : h.IsList ax items) :
    Src prog w A h (h.push { cls := .type "list_iterator", data := .fields #[.ref ax, .int 0 0] }) h.objs.size [h.objs.size, ax] [h.objs.size] items.size (fun i v => items[i]? = some v) (fun i h' => h'.IsListIter h.objs.size ax i ∧ h'.IsList ax items) := by
  obtain ⟨o, ho, r⟩ := id hl
  have hlt : @LT.lt Nat _ ax h.objs.size := Heap.lt_size ho
  refine ⟨Walks.list hh _ _ (Nat.ne_of_lt hlt) _, ⟨⟨_, Heap.get?_push_size _ rfl, rfl, rfl⟩, ⟨o, Heap.get?_push_of_some _ ho, r⟩⟩, fun b hb => ?_, fun b o e => Heap.get?_push_of_some _ e, fun b hb => ?_, ?_, fun i h' st b hb => ?_⟩
  · rw [Heap.size_push]
    rcases List.mem_cons.mp hb with rfl | hb
    · exact Nat.lt_succ_self _
    · rw [List.mem_singleton.mp hb]; exact Nat.lt_succ_of_lt hlt
  · rw [List.mem_singleton.mp hb]; exact none_of_le (Nat.le_refl _)
  · rw [Heap.size_push]; exact Nat.le_succ _
  · rw [List.mem_singleton.mp hb]; obtain ⟨⟨o', ho', _⟩, _⟩ := st; exact ⟨o', ho'⟩

theorem pyIter_tuple_src {E : Value → Shared → Prop} {s : Shared} {ax : Addr} {items : Array Value} {Q : Value → Shared → Prop} (hh : A.handled = none) (hl : s.heap.IsTuple ax items)
    (h : ∀ h₂ I fp wr St, Src prog w A s.heap h₂ I fp wr items.size (fun i v => items[i]? = some v) St → Q (.ref I) { s with heap := h₂ }) : wpAny (model prog w) A (pyIter (.ref ax)) Q E s :=
  wpAny_pyIter_tuple hl (h _ _ _ _ _ (tuple_src hh hl))
theorem pyIter_list_src {E : Value → Shared → Prop} {s : Shared} {ax : Addr} {items : Array Value} {Q : Value → Shared → Prop} (hh : A.handled = none) (hl : s.heap.IsList ax items)
    (h : ∀ h₂ I fp wr St, Src prog w A s.heap h₂ I fp wr items.size (fun i v => items[i]? = some v) St → Q (.ref I) { s with heap := h₂ }) : wpAny (model prog w) A (pyIter (.ref ax)) Q E s :=
  wpAny_pyIter_list hl (h _ _ _ _ _ (list_src hh hl))

/-- a comprehension of ints: what the list holds -/
theorem paired_ints {f : Nat → Int} {n : Nat} {ys : List Value} (h : Paired (fun j y => ∃ t, y = Value.int (f j) t) ((List.range n).filter fun _ => true) ys) : IntsAre ys ((List.range n).map f) := by
  have e : (List.range n).filter (fun _ => true) = List.range n := by simp
  rw [e] at h
  generalize List.range n = l at h
  induction h with
  | nil => exact .nil
  | cons hab _ ih => obtain ⟨t, rfl⟩ := hab; exact .cons _ _ ih
theorem range_map_get {vs : List Value} {l : List Int} (h : IntsAre vs l) (f : Int → Int) : (List.range vs.length).map (fun i => f (l.getD i 0)) = l.map f := by
  rw [h.length]
  apply List.ext_getElem
  · simp
  · intro i h1 h2
    have hi : i < l.length := by simpa using h2
    simp [List.getD, hi]
end
/-- all that stands beside the ground, a frame and the named places -/
theorem rest_ex {g h : Heap} {C : Addr} (xs : List Addr) (hk : ∀ b o, g.get? b = some o → h.get? b = some o) : ∃ rest, News g C h rest ∧ OwnOff rest xs ∧ ∀ b o, b ≠ C → b ∉ xs → h.get? b = some o → g.get? b = some o ∨ (b, o) ∈ rest := by
  obtain ⟨all, N, H⟩ := all_ex (C := C) hk
  refine ⟨all.filter fun p => decide (p.1 ∉ xs), fun p hp => N p (List.mem_filter.mp hp).1, fun p hp b hb e => ?_, fun b o h1 h2 e => ?_⟩
  · have := (List.mem_filter.mp hp).2
    simp only [decide_eq_true_eq] at this
    exact this (e ▸ hb)
  · rcases H b o h1 e with q | q
    · exact .inl q
    · exact .inr (List.mem_filter.mpr ⟨q, by simpa using h2⟩)
theorem pyIter_list_abs {prog : Program} {w : World} {A : Around} {E : Value → Shared → Prop} {s : Shared} {g : Heap} {L e : Addr} {m : Str → Option Value} {items : Array Value} {Q : Value → Shared → Prop} (F : Fr g L s.heap m) (hl : s.heap.IsList e items)
    (h : ∀ h₂ I, h₂.IsListIter I e 0 → g.get? I = none → I ≠ L → (∀ b o, s.heap.get? b = some o → h₂.get? b = some o ∧ b ≠ I) → Q (.ref I) { s with heap := h₂ }) : wpAny (model prog w) A (pyIter (.ref e)) Q E s :=
  wpAny_pyIter_list hl (h _ _ ⟨_, Heap.get?_push_size _ rfl, rfl, rfl⟩ (none_at_size F) (Nat.ne_of_gt F.ns.lt) fun _ _ e => ⟨Heap.get?_push_of_some _ e, Nat.ne_of_lt (Heap.lt_size e)⟩)
end
section
open PySem PySem.W PyProof.Rows PySem.Calls
set_option Elab.async false
set_option maxRecDepth 100000
set_option maxHeartbeats 4000000
set_option pp.deepTerms false
set_option pp.deepTerms.threshold 4
set_option pp.proofs false

theorem stopHere {P : Prop} (h : Kept P) : P := h.out

/-- one of the sets, at a place of the heap; P says of its objects' places -/
noncomputable def OneAt (P : Addr → Prop) (h : Heap) (a : Addr) (d : List Int × Int × Int) : Prop :=
  ∃ st vs t1 t2, P a ∧ P st ∧ IsTup h a #[.ref st, .int d.2.1 t1, .int d.2.2 t2] ∧ IsTup h st vs.toArray ∧ IntsAre vs d.1
theorem OneAt.mono {P P' : Addr → Prop} {h h' : Heap} {a : Addr} {d : List Int × Int × Int} (x : OneAt P h a d) (hk : ∀ b o xs n, P b → h.get? b = some o → o.data = .seq xs n → h'.get? b = some o ∧ P' b) : OneAt P' h' a d := by
  obtain ⟨st, vs, t1, t2, p1, p2, ⟨o1, g1, c1, n1, d1⟩, ⟨o2, g2, c2, n2, d2⟩, hi⟩ := x
  have k1 := hk _ _ _ _ p1 g1 d1
  have k2 := hk _ _ _ _ p2 g2 d2
  exact ⟨st, vs, t1, t2, k1.2, k2.2, ⟨o1, k1.1, c1, n1, d1⟩, ⟨o2, k2.1, c2, n2, d2⟩, hi⟩

noncomputable def grownL (d : List Int × Int × Int) (a b : Int) : Option (List Int × Int × Int) :=
  let x := d.1.getD a.toNat 0
  let y := d.1.getD b.toNat 0
  if x + y = 0 then none else
  let z := if x ≠ 0 then x else y
  some (if x = y ∨ x = 0 ∨ y = 0 then d.1.map (fun s => if s = z ∨ s = -z then 0 else s) else d.1.map (fun s => if s = y then -x else if s = -y then x else s), if x = y then d.2.1 + 1 else d.2.1, d.2.2 + 1)

theorem any_two {z n : Int} {r : Bool} (h : ([z, -z].any fun x => x == n) = r) : (n = z ∨ n = -z) ↔ r = true := by
  subst h
  simp only [List.any_cons, List.any_nil, Bool.or_false, Bool.or_eq_true, beq_iff_eq]
  exact or_congr eq_comm eq_comm

theorem fr_nameG {g h : Heap} {L : Addr} {m : Str → Option Value} (a : Str) (v : Value) (F : Fr g L h m) (e : m a = some v) : Fr g L h (fun y => if y = a then some v else m y) := by
  have : m = fun y => if y = a then some v else m y := by
    funext y
    by_cases h1 : y = a
    · rw [if_pos h1, h1]; exact e
    · rw [if_neg h1]
  rwa [this] at F
section
variable {prog : Program} {w : World} {A : Around} {s : Shared}
/-- a statement that may store one name, its ways joined -/
theorem cut_if {g : Heap} {L : Addr} {m : Str → Option Value} {news : List (Addr × Obj)} {t : Sem Flow} {Q : Flow → Shared → Prop} {E : Value → Shared → Prop} (_ : Fr g L s.heap m) (_ : News g L s.heap news) (x : Str) (P : Value → Prop)
    (h1 : wpAny (model prog w) A t (fun f s' => Kept (f = .next ∧ ∃ h2 tk v, s' = { s with heap := h2, toks := tk } ∧ P v ∧ Fr g L h2 (fun y => if y = x then some v else m y) ∧ News g L h2 news)) noE s)
    (h2 : ∀ h2 tk v, P v → Fr g L h2 (fun y => if y = x then some v else m y) → News g L h2 news → Q .next { s with heap := h2, toks := tk }) : wpAny (model prog w) A t Q E s :=
  noE_up (wpAny_mono h1 (fun _ _ h => by obtain ⟨rfl, h3, tk, v, rfl, p, f, n⟩ := h.out; exact h2 h3 tk v p f n) fun _ _ e => e)
/-- a test, its ways joined -/
theorem cut_test {t : Sem Bool} {Q : Bool → Shared → Prop} {E : Value → Shared → Prop} (C : Prop) [Decidable C] (h1 : wpAny (model prog w) A t (fun b s' => Kept (b = decide C ∧ ∃ tk, s' = { s with toks := tk })) noE s)
    (h2 : ∀ tk, Q (decide C) { s with toks := tk }) : wpAny (model prog w) A t Q E s :=
  noE_up (wpAny_mono h1 (fun _ _ h => by obtain ⟨rfl, tk, rfl⟩ := h.out; exact h2 tk) fun _ _ e => e)
/-- an int, its ways joined -/
theorem cut_int {t : Sem Value} {Q : Value → Shared → Prop} {E : Value → Shared → Prop} (z : Int) (h1 : wpAny (model prog w) A t (fun v s' => Kept (∃ n u, v = .int n u ∧ n = z ∧ ∃ tk, s' = { s with toks := tk })) noE s)
    (h2 : ∀ u tk, Q (.int z u) { s with toks := tk }) : wpAny (model prog w) A t Q E s :=
  noE_up (wpAny_mono h1 (fun _ _ h => by obtain ⟨n, u, rfl, rfl, tk, rfl⟩ := h.out; exact h2 u tk) fun _ _ e => e)
end
theorem grown_spec {w : World} {dp un : Nat} {fr : Option (List Env)} {gd : Option (List Code)} {Q E : Value → Shared → Prop} {s : Shared} {loose : List Str} {mean : ExcName → Option Value} {mg mb : Str → Option Value}
  (o : Addr) (l : List Int) (rings size : Int) (ta tb : Tok) (a b : Int) (hl : l.length = 5) (hone : OneAt (fun _ => True) s.heap o (l, rings, size))
  (ha : 0 ≤ a ∧ a < 5) (hb : 0 ≤ b ∧ b < 5)
  (hd1 : dp + 10 < recursionLimit) (hu : un + 50 < cLine) (X : (hd.heap_39 w.params).In s.heap) (T : Top hd.view_39 loose mean mg mb s.heap)
  (h : ∀ r h' tk, (∀ b o, s.heap.get? b = some o → h'.get? b = some o) → (match grownL (l, rings, size) a b with | none => r = .none | some d => ∃ a', r = .ref a' ∧ OneAt (fun b => s.heap.get? b = none) h' a' d) → Q r { s with heap := h', toks := tk }) :
  wpAny (model PySem.Challenge.rw_wn0101_01.row.prog w) (AA dp un fr gd) (call (.ref 156) [.ref o, .int a ta, .int b tb]) Q E s := by
  obtain ⟨st, vs, t1, t2, _, _, ho, hst, hvs⟩ := hone
  dsimp only at ho hvs
  revert X
  k_with_none
  w_top off
  k_with "eval ListComp" => (with_reducible (refine stopHere ?_))
  k_with "eval Name" => (((with_reducible show wpAny _ _ (eval _ (compEnvC _ _ _ _)) _ _ _); (with_reducible rename Fr _ _ _ _ => zF0); k_dflt (first | (refine nm_loc zF0 rfl rfl rfl ?_ (by decide)) | (refine nm_cell zF0 rfl rfl rfl (by assumption) (by assumption) ?_ (by decide)))))
  k_fill
  intro X
  (refine' enterC ?X ?T ?k6 ?k7 ?k8 ?k9 ?kB ?kD ?_ ?c2 ?c3 ?c4; (case X => assumption); (case T => assumption); (case k6 => k_is); (case k7 => k_is); (case k8 => (dsimp only [AA]; (first | (law_clear; lia) | omega))); (case k9 => first | exact BindsTo.of_eq rfl | exact binds_K (by k_in) rfl (by k_is) rfl rfl rfl); (case kB => exact rfl); (case kD => decide); (case c2 => exact rfl); (case c3 => exact rfl); (case c4 => exact rfl))
  intro L h₁ tk cells F N Y
  k_cells Y
  k_with "exec If" => (with_reducible (refine stopHere ?_))
  k_steps
  refine ⟨?_⟩
  k_with_none
  w_top off
  k_with "eval ListComp" => (with_reducible (refine stopHere ?_))
  k_with "eval Name" => (((with_reducible show wpAny _ _ (eval _ (compEnvC _ _ _ _)) _ _ _); (with_reducible rename Fr _ _ _ _ => zF0); k_dflt (first | (refine nm_loc zF0 rfl rfl rfl ?_ (by decide)) | (refine nm_cell zF0 rfl rfl rfl (by assumption) (by assumption) ?_ (by decide)))))
  walk1
  k_with "exec If" => (with_reducible (refine stopHere ?_))
  k_steps
  · refine h _ _ _ (Fr.keep (by assumption)) ?_
    unfold grownL
    dsimp only
    rw [if_pos (by assumption)]
  have hxy : l.getD a.toNat 0 + l.getD b.toNat 0 ≠ 0 := by assumption
  refine ⟨?_⟩
  with_reducible rename Fr _ _ _ _ => Fa
  with_reducible rename News _ _ _ _ => Na
  k_with_none
  w_top off
  refine cut_if Fa Na (Str.ofString "rings") (fun v => ∃ t, v = .int (if l.getD a.toNat 0 = l.getD b.toNat 0 then rings + 1 else rings) t) ?_ ?_
  · refine wpAny_If ?_
    repeat walk1
    · exact ⟨rfl, _, _, _, rfl, ⟨_, by rw [if_pos (by assumption)]⟩, by assumption, by assumption⟩
    · refine wpAny_execs_nil ?_
      exact ⟨rfl, _, _, _, rfl, ⟨t1, by rw [if_neg (by assumption)]⟩, fr_nameG (Str.ofString "rings") (.int rings t1) (by assumption) rfl, by assumption⟩
  intro hb tkb vb hvb Fb Nb
  obtain ⟨tb', rfl⟩ := hvb
  generalize hrr : (if l.getD a.toNat 0 = l.getD b.toNat 0 then rings + 1 else rings) = rr at Fb
  clear Fa Na
  dsimp only
  k_with "eval ListComp" => (with_reducible (refine stopHere ?_))
  k_with "eval Name" => (((with_reducible show wpAny _ _ (eval _ (compEnvC _ _ _ _)) _ _ _); (with_reducible rename Fr _ _ _ _ => zF0); k_dflt (first | (refine nm_loc zF0 rfl rfl rfl ?_ (by decide)) | (refine nm_cell zF0 rfl rfl rfl (by assumption) (by assumption) ?_ (by decide)))))
  k_with "isTrue BoolOp" => (with_reducible (refine stopHere ?_))
  k_steps
  refine ⟨?_⟩
  k_with_none
  w_top off
  refine cut_test (l.getD a.toNat 0 = l.getD b.toNat 0 ∨ l.getD a.toNat 0 = 0 ∨ l.getD b.toNat 0 = 0) ?_ ?_
  · repeat' (first | walk1 | (dsimp only; walk1))
    all_goals first
      | exact ⟨(decide_eq_true (by first | exact .inl (by assumption) | exact .inr (.inl (by assumption)) | exact .inr (.inr (by assumption)))).symm, _, rfl⟩
      | exact ⟨(decide_eq_false (by rintro (q | q | q) <;> contradiction)).symm, _, rfl⟩
  intro tkc
  k_with "eval ListComp" => (with_reducible (refine stopHere ?_))
  k_with "eval Name" => (((with_reducible show wpAny _ _ (eval _ (compEnvC _ _ _ _)) _ _ _); (with_reducible rename Fr _ _ _ _ => zF0); k_dflt (first | (refine nm_loc zF0 rfl rfl rfl ?_ (by decide)) | (refine nm_cell zF0 rfl rfl rfl (by assumption) (by assumption) ?_ (by decide)))))
  k_with "eval IfExp" => (with_reducible (refine stopHere ?_))
  by_cases hC : l.getD a.toNat 0 = l.getD b.toNat 0 ∨ l.getD a.toNat 0 = 0 ∨ l.getD b.toNat 0 = 0
  · rw [decide_eq_true hC, if_pos rfl]
    dsimp only
    k_steps
    refine ⟨?_⟩
    k_with_none
    refine cut_int (if l.getD a.toNat 0 ≠ 0 then l.getD a.toNat 0 else l.getD b.toNat 0) ?_ ?_
    · repeat' (first | walk1 | (dsimp only; walk1))
      all_goals first
        | exact ⟨_, _, rfl, by rw [if_pos (by assumption)], _, rfl⟩
        | exact ⟨_, _, rfl, by rw [if_neg (by simpa using (by assumption))], _, rfl⟩
    intro uz tkz
    dsimp only
    k_with "eval ListComp" => (with_reducible (refine stopHere ?_))
    k_with "eval Name" => (((with_reducible show wpAny _ _ (eval _ (compEnvC _ _ _ _)) _ _ _); (with_reducible rename Fr _ _ _ _ => zF0); k_dflt (first | (refine nm_loc zF0 rfl rfl rfl ?_ (by decide)) | (refine nm_cell zF0 rfl rfl rfl (by assumption) (by assumption) ?_ (by decide)))))
    k_steps
    refine ⟨?_⟩
    refine' ListComp_my ?hclos ?hcell ?hkind ?hnames ?_ ?hs
    case hclos => with_unfolding_all rfl
    case hcell => decide
    case hkind => with_unfolding_all rfl
    case hnames => decide
    case hs => intro _; with_unfolding_all rfl
    walk1
    rename Fr _ _ _ _ => FF
    rename News _ _ _ _ => NN
    have hst' := IsTup.keeps hst FF.keep
    have c1 := (NN _ (List.Mem.head _)).1
    have c2 := (NN _ (List.Mem.tail _ (List.Mem.head _))).1
    have c3 := (NN _ (List.Mem.tail _ (List.Mem.tail _ (List.Mem.head _)))).1
    dsimp only at c1 c2 c3
    refine pyIter_tuple_src rfl hst' fun h₂ I fp wr St S => ?_
    have hf : ∃ z tz, z = (if l.getD a.toNat 0 ≠ 0 then l.getD a.toNat 0 else l.getD b.toNat 0) ∧ _ = Data.cell (some (Value.int z tz)) := ⟨_, _, rfl, by assumption⟩
    obtain ⟨z, tz, hz, dz⟩ := hf
    refine ⟨⟨I, fp, wr, _, _, St, fun _ => true, fun i y _ => ∃ t, y = .int ((fun s => if s = z ∨ s = -z then 0 else s) (l.getD i 0)) t, rfl, S.walks, ?_, S.start, S.lt, S.keep, S.new, S.size, S.live, go_name, ?_, ?_⟩⟩
    · rw [List.size_toArray, hvs.length, hl]; decide
    · intro i v C h9 tk m hi hP htk F hgh all Nall Hall
      dsimp only at F Nall Hall
      obtain ⟨ti, hvi⟩ := hvs.get i (l.getD i 0) (by rw [List.size_toArray, hvs.length] at hi; simp [List.getD, hi])
      have hv : v = .int (l.getD i 0) ti := by
        rw [List.getElem?_toArray, hvi] at hP
        exact (Option.some.inj hP).symm
      subst hv
      refine wpAny_assign_Name (st_any F Nall rfl rfl fun h₃ F₃ N₃ => ?_)
      refine wpAny_tests_nil ?_
      rw [if_pos rfl]
      refine ⟨rfl, ?_⟩
      clear F
      k_steps
      all_goals
        rename Fr _ _ _ _ => F9
        rename News _ _ _ _ => N9
        rename ([z, -z].any _ = _) => hany
        refine ⟨⟨_, _, _, rfl, F9, keeps_all Hall F9 N9 (fun p hp => List.mem_cons_of_mem _ hp), fun _ _ => ?_⟩⟩
        have h2 := any_two hany
        dsimp only
        first
        | (rw [if_pos (h2.mpr rfl)]; exact ⟨_, rfl⟩)
        | (rw [if_neg (fun q => Bool.false_ne_true (h2.mp q))]; exact ⟨_, rfl⟩)
    · intro D h' tk ys hD hpl hpr hk
      dsimp only at hD hk ⊢
      have F' := FF.keeps hk
      have N' := News.grown NN hk
      obtain ⟨vs', rfl⟩ : ∃ vs', ys = List.toArray vs' := ⟨ys.toList, by simp⟩
      have hI := paired_ints hpr
      obtain ⟨nD, eD⟩ := hpl
      have hDL : D ≠ L := by
        intro q
        obtain ⟨oL, _, _, hoL, _⟩ := FF.ns
        have := S.keep _ _ hoL
        rw [← q, hD] at this; cases this
      have hDs : s.heap.get? D = none := by
        cases q : s.heap.get? D with
        | none => rfl
        | some o' => have := S.keep _ _ (FF.keep _ _ q); rw [hD] at this; cases this
      have N2 : News s.heap L h' ((D, { cls := .type "list", data := .seq vs'.toArray nD }) :: _) := fun p hp => by
        rcases List.mem_cons.mp hp with rfl | hp
        · exact ⟨eD, hDL, hDs⟩
        · exact N' p hp
      clear N' FF NN
      have hI' : IntsAre vs' (l.map fun s => if s = z ∨ s = -z then 0 else s) := by
        rw [List.size_toArray] at hI
        rw [← range_map_get hvs]
        exact hI
      have hlen : vs'.length = 5 := by rw [hI'.length, List.length_map, hl]
      walk1
      have hIL : h'.IsList D vs'.toArray := ⟨_, eD, rfl, nD, rfl⟩
      refine tuple_ofL (s := ⟨h', _, _, _, _⟩) F' N2 hIL (fun D2 h2 F2 N3 hk2 => ?_) (by rw [hlen]; decide)
      clear F' N2
      k_steps
      rename News _ _ _ _ => N9
      rename Fr _ _ _ _ => F9
      have n1 := N9 _ (List.Mem.head _)
      have n2 := N9 _ (List.Mem.tail _ (List.Mem.head _))
      refine h _ _ _ F9.keep ?_
      unfold grownL
      dsimp only
      rw [if_neg hxy]
      dsimp only
      rw [← hz, if_pos hC, hrr]
      exact ⟨_, rfl, ⟨_, vs', _, _, n1.2.2, n2.2.2, ⟨_, n1.1, rfl, _, rfl⟩, ⟨_, n2.1, rfl, _, rfl⟩, hI'⟩⟩

  · rw [decide_eq_false hC, if_neg Bool.false_ne_true]
    have hq1 : l.getD a.toNat 0 ≠ l.getD b.toNat 0 := fun q => hC (.inl q)
    dsimp only
    k_with_none
    k_with "eval ListComp" => (with_reducible (refine stopHere ?_))
    k_with "eval Name" => (((with_reducible show wpAny _ _ (eval _ (compEnvC _ _ _ _)) _ _ _); (with_reducible rename Fr _ _ _ _ => zF0); k_dflt (first | (refine nm_loc zF0 rfl rfl rfl ?_ (by decide)) | (refine nm_cell zF0 rfl rfl rfl (by assumption) (by assumption) ?_ (by decide)))))
    k_steps
    refine ⟨?_⟩
    refine' ListComp_my ?hclos ?hcell ?hkind ?hnames ?_ ?hs
    case hclos => with_unfolding_all rfl
    case hcell => decide
    case hkind => with_unfolding_all rfl
    case hnames => decide
    case hs => intro _; with_unfolding_all rfl
    walk1
    rename Fr _ _ _ _ => FF
    rename News _ _ _ _ => NN
    have hst' := IsTup.keeps hst FF.keep
    have c1 := (NN _ (List.Mem.head _)).1
    have c2 := (NN _ (List.Mem.tail _ (List.Mem.head _))).1
    have c3 := (NN _ (List.Mem.tail _ (List.Mem.tail _ (List.Mem.head _)))).1
    dsimp only at c1 c2 c3
    refine pyIter_tuple_src rfl hst' fun h₂ I fp wr St S => ?_
    refine ⟨⟨I, fp, wr, _, _, St, fun _ => true, fun i y _ => ∃ t, y = .int ((fun s => if s = l.getD b.toNat 0 then -l.getD a.toNat 0 else if s = -l.getD b.toNat 0 then l.getD a.toNat 0 else s) (l.getD i 0)) t, rfl, S.walks, ?_, S.start, S.lt, S.keep, S.new, S.size, S.live, go_name, ?_, ?_⟩⟩
    · rw [List.size_toArray, hvs.length, hl]; decide
    · intro i v C h9 tk m hi hP htk F hgh all Nall Hall
      dsimp only at F Nall Hall
      obtain ⟨ti, hvi⟩ := hvs.get i (l.getD i 0) (by rw [List.size_toArray, hvs.length] at hi; simp [List.getD, hi])
      have hv : v = .int (l.getD i 0) ti := by
        rw [List.getElem?_toArray, hvi] at hP
        exact (Option.some.inj hP).symm
      subst hv
      refine wpAny_assign_Name (st_any F Nall rfl rfl fun h₃ F₃ N₃ => ?_)
      refine wpAny_tests_nil ?_
      rw [if_pos rfl]
      refine ⟨rfl, ?_⟩
      clear F
      k_steps
      all_goals
        rename Fr _ _ _ _ => F9
        rename News _ _ _ _ => N9
        refine ⟨⟨_, _, _, rfl, F9, keeps_all Hall F9 N9 (fun p hp => by assumption), fun _ _ => ?_⟩⟩
        dsimp only
        first
        | (rw [if_pos (by assumption)]; exact ⟨_, rfl⟩)
        | (rw [if_neg (by assumption), if_pos (by assumption)]; exact ⟨_, rfl⟩)
        | (rw [if_neg (by assumption), if_neg (by assumption)]; exact ⟨_, rfl⟩)
    · intro D h' tk ys hD hpl hpr hk
      dsimp only at hD hk ⊢
      have F' := FF.keeps hk
      have N' := News.grown NN hk
      obtain ⟨vs', rfl⟩ : ∃ vs', ys = List.toArray vs' := ⟨ys.toList, by simp⟩
      have hI := paired_ints hpr
      obtain ⟨nD, eD⟩ := hpl
      have hDL : D ≠ L := by
        intro q
        obtain ⟨oL, _, _, hoL, _⟩ := FF.ns
        have := S.keep _ _ hoL
        rw [← q, hD] at this; cases this
      have hDs : s.heap.get? D = none := by
        cases q : s.heap.get? D with
        | none => rfl
        | some o' => have := S.keep _ _ (FF.keep _ _ q); rw [hD] at this; cases this
      have N2 : News s.heap L h' ((D, { cls := .type "list", data := .seq vs'.toArray nD }) :: _) := fun p hp => by
        rcases List.mem_cons.mp hp with rfl | hp
        · exact ⟨eD, hDL, hDs⟩
        · exact N' p hp
      clear N' FF NN
      have hI' : IntsAre vs' (l.map fun s => if s = l.getD b.toNat 0 then -l.getD a.toNat 0 else if s = -l.getD b.toNat 0 then l.getD a.toNat 0 else s) := by
        rw [List.size_toArray] at hI
        rw [← range_map_get hvs]
        exact hI
      have hlen : vs'.length = 5 := by rw [hI'.length, List.length_map, hl]
      walk1
      have hIL : h'.IsList D vs'.toArray := ⟨_, eD, rfl, nD, rfl⟩
      refine tuple_ofL (s := ⟨h', _, _, _, _⟩) F' N2 hIL (fun D2 h2 F2 N3 hk2 => ?_) (by rw [hlen]; decide)
      clear F' N2
      k_steps
      rename News _ _ _ _ => N9
      rename Fr _ _ _ _ => F9
      have n1 := N9 _ (List.Mem.head _)
      have n2 := N9 _ (List.Mem.tail _ (List.Mem.head _))
      refine h _ _ _ F9.keep ?_
      unfold grownL
      dsimp only
      rw [if_neg hxy]
      dsimp only
      rw [if_neg hC, hrr]
      exact ⟨_, rfl, ⟨_, vs', _, _, n1.2.2, n2.2.2, ⟨_, n1.1, rfl, _, rfl⟩, ⟨_, n2.1, rfl, _, rfl⟩, hI'⟩⟩
end
section
open PySem PySem.W PyProof.Rows PySem.Calls
set_option Elab.async false
set_option maxRecDepth 100000
set_option maxHeartbeats 2000000
set_option pp.deepTerms false
set_option pp.deepTerms.threshold 4
set_option pp.proofs false

noncomputable def EndAt (h : Heap) (p : Int × Int) (v : Value) : Prop := ∃ a t u, v = .ref a ∧ IsTup h a #[.int p.1 t, .int p.2 u]
noncomputable def SetsAt (P : Addr → Prop) (h : Heap) (S : Addr) (ds : List (List Int × Int × Int)) : Prop :=
  ∃ vs, P S ∧ h.IsList S vs.toArray ∧ Paired (fun d v => ∃ a, v = .ref a ∧ OneAt P h a d) ds vs

theorem OneAt.len {P : Addr → Prop} {h : Heap} {a : Addr} {d : List Int × Int × Int} (_ : OneAt P h a d) : True := trivial
theorem Paired.get {α β : Type} {F : α → β → Prop} : ∀ {l₁ : List α} {l₂ : List β} {i : Nat} {a : α}, Paired F l₁ l₂ → l₁[i]? = some a → ∃ b, l₂[i]? = some b ∧ F a b
  | _, _, 0, _, .cons h _, e => by
    simp only [List.getElem?_cons_zero, Option.some.injEq] at e
    subst e
    exact ⟨_, rfl, h⟩
  | _, _, i + 1, _, .cons _ r, e => by
    simp only [List.getElem?_cons_succ] at e ⊢
    exact Paired.get r e
theorem SetsAt.mono {P P' : Addr → Prop} {h h' : Heap} {S : Addr} {ds : List (List Int × Int × Int)} (x : SetsAt P h S ds) (hk : ∀ b o xs n, P b → h.get? b = some o → o.data = .seq xs n → h'.get? b = some o ∧ P' b) : SetsAt P' h' S ds := by
  obtain ⟨vs, p1, ⟨o1, g1, c1, n1, d1⟩, hp⟩ := x
  have k1 := hk _ _ _ _ p1 g1 d1
  exact ⟨vs, k1.2, ⟨o1, k1.1, c1, n1, d1⟩, hp.mono fun d v ⟨a, e, ha⟩ => ⟨a, e, ha.mono hk⟩⟩
noncomputable def setsStep (ds : List (List Int × Int × Int)) (p : Int × Int) : List (List Int × Int × Int) := ds ++ ds.filterMap fun d => grownL d p.1 p.2
noncomputable def setsL (es : List (Int × Int)) : List (List Int × Int × Int) := es.foldl setsStep [([1, 2, 3, 4, 5], 0, 0)]
noncomputable def GrownAt (P : Addr → Prop) (h : Heap) (y : Value) (od : Option (List Int × Int × Int)) : Prop :=
  match od with
  | none => y = .none
  | some d => ∃ a', y = .ref a' ∧ OneAt P h a' d
theorem seq_ne {h : Heap} {b c : Addr} {o o' : Obj} {xs : Array Value} {n : Nat} (hb : h.get? b = some o) (hd : o.data = .seq xs n) (hc : h.get? c = some o') (hn : ∀ xs n, o'.data ≠ .seq xs n) : b ≠ c := by
  rintro rfl
  rw [hb] at hc
  cases hc
  exact hn _ _ hd

theorem grown_len {d d' : List Int × Int × Int} {a b : Int} (hd : d.1.length = 5) (h : grownL d a b = some d') : d'.1.length = 5 := by
  unfold grownL at h
  dsimp only at h
  split at h
  · cases h
  · have h := Option.some.inj h
    rw [← h]
    dsimp only
    split <;> simp [hd]
theorem step_len {ds : List (List Int × Int × Int)} (p : Int × Int) (h : ∀ d ∈ ds, d.1.length = 5) : ∀ d ∈ setsStep ds p, d.1.length = 5 := by
  intro d hd
  rcases List.mem_append.mp hd with q | q
  · exact h d q
  · obtain ⟨d0, h0, e⟩ := List.mem_filterMap.mp q
    exact grown_len (h d0 h0) e
theorem sets_ok : ∀ (es : List (Int × Int)) (ds : List (List Int × Int × Int)), (∀ d ∈ ds, d.1.length = 5) → (∀ d ∈ es.foldl setsStep ds, d.1.length = 5) ∧ (es.foldl setsStep ds).length ≤ 2 ^ es.length * ds.length
  | [], ds, h => ⟨h, by simp⟩
  | p :: es, ds, h => by
    have ih := sets_ok es (setsStep ds p) (step_len p h)
    refine ⟨ih.1, Nat.le_trans ih.2 ?_⟩
    have : (setsStep ds p).length ≤ 2 * ds.length := by
      unfold setsStep
      rw [List.length_append]
      have := List.length_filterMap_le (fun d => grownL d p.1 p.2) ds
      (first | (law_clear; lia) | omega)
    calc 2 ^ es.length * (setsStep ds p).length ≤ 2 ^ es.length * (2 * ds.length) := Nat.mul_le_mul_left _ this
      _ = 2 ^ (p :: es).length * ds.length := by rw [List.length_cons, Nat.pow_succ, Nat.mul_assoc]
theorem setsL_ok (es : List (Int × Int)) (h6 : es.length ≤ 6) : (∀ d ∈ setsL es, d.1.length = 5) ∧ (setsL es).length ≤ 64 := by
  have h := sets_ok es [([1, 2, 3, 4, 5], 0, 0)] (by simp)
  refine ⟨h.1, Nat.le_trans h.2 ?_⟩
  have : 2 ^ es.length ≤ 2 ^ 6 := Nat.pow_le_pow_right (by decide) h6
  simpa using this

theorem Paired.app {α β : Type} {F : α → β → Prop} {a c : List α} {b d : List β} (h : Paired F a b) (g : Paired F c d) : Paired F (a ++ c) (b ++ d) := by
  induction h with
  | nil => exact g
  | cons q _ ih => exact .cons q ih
theorem paired_filter {α β γ : Type} {G : α → Option β} {F : β → γ → Prop} : ∀ {l : List α} {ys : List γ}, Paired (fun j y => ∃ d, G j = some d ∧ F d y) (l.filter fun j => (G j).isSome) ys → Paired F (l.filterMap G) ys
  | [], _, h => by cases h; exact .nil
  | j :: l, ys, h => by
    rw [List.filter_cons] at h
    rw [List.filterMap_cons]
    cases e : G j with
    | none =>
      rw [e, if_neg (by simp)] at h
      exact paired_filter h
    | some d =>
      rw [e, if_pos (by simp)] at h
      cases h with
      | cons q r =>
        obtain ⟨d', e', hF⟩ := q
        rw [e] at e'
        cases e'
        exact .cons hF (paired_filter r)
theorem filterMap_range {α β : Type} {f : α → Option β} (ds : List α) (x : α) : ((List.range ds.length).filterMap fun j => f (ds.getD j x)) = ds.filterMap f := by
  have : ds = (List.range ds.length).map (fun j => ds.getD j x) := by
    apply List.ext_getElem
    · simp
    · intro i h1 h2
      simp [List.getD, h1]
  conv => rhs; rw [this]
  rw [List.filterMap_map]
  rfl
theorem fin_assign {g h h' : Heap} {L : Addr} {m0 m : Str → Option Value} {news : List (Addr × Obj)} (F : Fr g L h m0) (N : News g L h news) (hk : ∀ b o, b ≠ L → h.get? b = some o → h'.get? b = some o) (hns : h'.Ns L m) : Fr g L h' m ∧ News g L h' news :=
  ⟨⟨hns, fun b o e => hk b o (fun r => by have := Heap.lt_size e; have := F.above; rw [r] at *; exact absurd ‹L < g.objs.size› (Nat.not_lt.mpr this)) (F.keep b o e), F.above⟩, fun p hp => ⟨hk _ _ (N p hp).2.1 (N p hp).1, (N p hp).2⟩⟩

theorem sets_spec {w : World} {dp un : Nat} {fr : Option (List Env)} {gd : Option (List Code)} {Q E : Value → Shared → Prop} {s : Shared} {loose : List Str} {mean : ExcName → Option Value} {mg mb : Str → Option Value}
  (e : Addr) (vsE : List Value) (es : List (Int × Int)) (hlen : es.length ≤ 6) (hes : ∀ p ∈ es, (0 ≤ p.1 ∧ p.1 < 5) ∧ 0 ≤ p.2 ∧ p.2 < 5) (heL : s.heap.IsList e vsE.toArray) (hE : Paired (EndAt s.heap) es vsE)
  (hd1 : dp + 20 < recursionLimit) (hu : un + 80 < cLine) (X : (hd.heap_39 w.params).In s.heap) (T : Top hd.view_39 loose mean mg mb s.heap)
  (hpost : ∀ S h' tk, (∀ b o, s.heap.get? b = some o → h'.get? b = some o) → SetsAt (fun b => s.heap.get? b = none) h' S (setsL es) → Q (.ref S) { s with heap := h', toks := tk }) :
  wpAny (model PySem.Challenge.rw_wn0101_01.row.prog w) (AA dp un fr gd) (call (.ref 161) [.ref e]) Q E s := by
  revert X
  k_with_none
  w_top off
  k_with "exec Assign cons ListComp" => (with_reducible (refine stopHere ?_))
  k_with "eval ListComp" => (with_reducible (refine stopHere ?_))
  k_with "eval Name" => (((with_reducible show wpAny _ _ (eval _ (compEnvC _ _ _ _)) _ _ _); (with_reducible rename Fr _ _ _ _ => zF0); k_dflt (first | (refine nm_loc zF0 rfl rfl rfl ?_ (by decide)) | (refine nm_cell zF0 rfl rfl rfl (by assumption) (by assumption) ?_ (by decide)))))
  k_fill
  intro X
  (refine' enterC ?X ?T ?k6 ?k7 ?k8 ?k9 ?kB ?kD ?_ ?c2 ?c3 ?c4; (case X => assumption); (case T => assumption); (case k6 => k_is); (case k7 => k_is); (case k8 => (dsimp only [AA]; (first | (law_clear; lia) | omega))); (case k9 => first | exact BindsTo.of_eq rfl | exact binds_K (by k_in) rfl (by k_is) rfl rfl rfl); (case kB => exact rfl); (case kD => decide); (case c2 => exact rfl); (case c3 => exact rfl); (case c4 => exact rfl))
  intro L h₁ tk cells F N Y
  k_cells Y
  refine wpAny_execs_cons ?_
  repeat walk1
  refine For_pure ?_ (by intro _; rfl)
  repeat walk1
  rename Fr _ _ _ _ => F5
  rename News _ _ _ _ => N5
  have heL5 := heL.at fun o q => F5.keep e o q
  have nS := N5 _ (List.Mem.head _)
  have nO := N5 _ (List.Mem.tail _ (List.Mem.head _))
  have nT := N5 _ (List.Mem.tail _ (List.Mem.tail _ (List.Mem.head _)))
  have nB := N5 _ (List.Mem.tail _ (List.Mem.tail _ (List.Mem.tail _ (List.Mem.head _))))
  have nA := N5 _ (List.Mem.tail _ (List.Mem.tail _ (List.Mem.tail _ (List.Mem.tail _ (List.Mem.head _)))))
  dsimp only at nS nO nT nB nA
  have hS0 : SetsAt (fun b => s.heap.get? b = none) _ _ (setsL (es.take 0)) :=
    ⟨[.ref _], nS.2.2, ⟨_, nS.1, rfl, _, rfl⟩, .cons ⟨_, rfl, _, [.int 1 _, .int 2 _, .int 3 _, .int 4 _, .int 5 _], _, _, nO.2.2, nT.2.2, ⟨_, nO.1, rfl, _, rfl⟩, ⟨_, nT.1, rfl, _, rfl⟩, .cons _ _ (.cons _ _ (.cons _ _ (.cons _ _ (.cons _ _ .nil))))⟩ .nil⟩
  clear nO nT
  refine pyIter_list_abs F5 heL5 fun h6 I hit0 hIs hIL hk6 => ?_
  refine ⟨fun n s' => ∃ (i : Nat) (h : Heap) (tk : Nat) (m : Str → Option Value) (S : Addr) (oa ob : Obj) (va vb : Option Value), s' = { s with heap := h, toks := tk } ∧ i ≤ es.length ∧ n = es.length - i ∧ Fr s.heap L h m ∧ m "sets" = some (.ref S) ∧
    h.IsListIter I e i ∧ h.get? (L + 1) = some oa ∧ oa.data = .cell va ∧ h.get? (L + 1 + 1) = some ob ∧ ob.data = .cell vb ∧ SetsAt (fun b => s.heap.get? b = none) h S (setsL (es.take i)), es.length,
    ⟨0, h6, _, _, _, _, _, _, _, rfl, Nat.zero_le _, rfl, F5.keeps fun b o e => (hk6 b o e).1, rfl, hit0, (hk6 _ _ nA.1).1, by assumption, (hk6 _ _ nB.1).1, by assumption, hS0.mono fun b o xs n hP e _ => ⟨(hk6 b o e).1, hP⟩⟩, ?_⟩
  have hIA : L + 1 ≠ I := (hk6 _ _ nA.1).2
  have hIB : L + 1 + 1 ≠ I := (hk6 _ _ nB.1).2
  have hAs := nA.2.2
  have hBs := nB.2.2
  clear nA nB nS hS0 hk6 hit0 F5 N5 heL5
  rintro n s' htk ⟨i, h9, tk, m, S, oa, ob, va, vb, rfl, hi, rfl, F, hm, hit, ga, da, gb, db, hS⟩ K hK Q' hQ'
  have hk : ∀ b o, s.heap.get? b = some o → h9.get? b = some o := F.keep
  have hl9 := heL.at fun o q => hk e o q
  have hmeq : m = fun y => if y = Str.ofString "sets" then some (Value.ref S) else m y := by
    funext y
    by_cases h1 : y = Str.ofString "sets"
    · rw [if_pos h1, h1]; exact hm
    · rw [if_neg h1]
  generalize hm' : m = m' at hmeq
  rw [hm', hmeq] at F
  clear hmeq hm' hm
  have hlE : es.length = vsE.length := hE.length
  by_cases hin : i = es.length
  · subst hin
    refine wpAny_pyNext_list_end rfl hit hl9 (by rw [List.getElem?_toArray, hlE]; simp) fun h' he' => ?_
    refine wpAny_execs_nil ?_
    refine hQ' _ _ ?_
    have F' : Fr s.heap L h' _ := ⟨F.ns.at' fun o q => he' L o (Ne.symm hIL) q, fun b o q => he' b o (fun r => by rw [r, hIs] at q; cases q) (hk b o q), F.above⟩
    have N' : News s.heap L h' [] := News.nil
    clear F
    dsimp only
    k_steps
    rename Fr _ _ _ _ => F9
    rw [List.take_length] at hS
    refine hpost S _ _ F9.keep (hS.mono fun b o xs n hP q hd => ⟨he' b o ?_ q, hP⟩)
    obtain ⟨oI, gI, _, dI⟩ := hit
    exact seq_ne q hd gI (fun xs n => by rw [dI]; exact fun r => nomatch r)
  · have hlt : i < es.length := Nat.lt_of_le_of_ne hi hin
    clear hin
    obtain ⟨v, hv, a, t, u, rfl, hT⟩ := Paired.get hE (List.getElem?_eq_getElem hlt)
    have hp := hes es[i] (List.getElem_mem hlt)
    have hs1 : setsL (es.take (i + 1)) = setsStep (setsL (es.take i)) es[i] := by
      unfold setsL
      rw [List.take_add_one, List.getElem?_eq_getElem hlt]
      simp only [Option.toList_some, List.foldl_append, List.foldl_cons, List.foldl_nil]
    generalize es[i] = p at *
    refine wpAny_pyNext_list_item hit hl9 (x := .ref a) (by rw [List.getElem?_toArray, hv]) fun h2 hit2 hs2 => ?_
    replace hs2 : Heap.SameBut I h9 h2 := hs2
    refine wpAny_letOwnedTupleGo_listiter hit2 ?_
    have hk2 : ∀ b o, b ≠ I → h9.get? b = some o → h2.get? b = some o := fun b o hb q => hs2.extBut b o hb q
    have ga2 := hk2 _ _ hIA ga
    have gb2 := hk2 _ _ hIB gb
    have F2 : Fr s.heap L h2 _ := ⟨F.ns.at' fun o q => hk2 L o (Ne.symm hIL) q, fun b o q => hk2 b o (fun r => by rw [r, hIs] at q; cases q) (hk b o q), F.above⟩
    have hS2 := hS.mono (P' := fun b => s.heap.get? b = none) (h' := h2) fun b o xs n hP q hd => ⟨hk2 b o (by
      obtain ⟨oI, gI, _, dI⟩ := hit
      exact seq_ne q hd gI (fun xs n => by rw [dI]; exact fun r => nomatch r)) q, hP⟩
    obtain ⟨rest, Nr, Or, Hr⟩ := rest_ex (C := L) [L + 1 + 1, L + 1] F2.keep
    have N2 : News s.heap L h2 ((L + 1 + 1, ob) :: (L + 1, oa) :: rest) := by
      intro q hq
      rcases List.mem_cons.mp hq with rfl | hq
      · exact ⟨gb2, fun r => absurd (show @Eq Nat (L + 1 + 1) L from r) (by (first | (law_clear; lia) | omega)), hBs⟩
      rcases List.mem_cons.mp hq with rfl | hq
      · exact ⟨ga2, Nat.succ_ne_self _, hAs⟩
      · exact Nr q hq
    clear F Nr
    dsimp only
    obtain ⟨oL, esL, epL, gL, dL, _⟩ := id F2.ns
    have hLno : ∀ xs n, oL.data ≠ .seq xs n := fun xs n => by rw [dL]; exact fun r => nomatch r
    repeat walk1
    refine ⟨?_⟩
    refine' Assign_ListComp_my ?hsw ?hclos ?hcell ?hkind ?hnames ?hy ?hp ?_ ?hs
    case hsw => with_unfolding_all rfl
    case hclos => with_unfolding_all rfl
    case hcell => decide
    case hkind => with_unfolding_all rfl
    case hnames => decide
    case hy => with_unfolding_all rfl
    case hp => with_unfolding_all rfl
    case hs => intro _; with_unfolding_all rfl
    walk1
    rename Fr _ _ _ _ => F4
    rename News _ _ _ _ => N4
    have cB := (N4 _ (List.Mem.head _)).1
    have cA := (N4 _ (List.Mem.tail _ (List.Mem.head _))).1
    dsimp only at cA cB
    have hitL : I ∉ [L + 1 + 1, L + 1] := by
      simp only [List.mem_cons, List.not_mem_nil, or_false]
      rintro (r | r)
      · exact hIB r.symm
      · exact hIA r.symm
    have hit4 := Heap.IsListIter.at (h' := _) hit2 fun o q => (Hr I o hIL hitL q).elim (fun r => F4.keep _ _ r) fun r => (N4 _ (List.Mem.tail _ (List.Mem.tail _ r))).1
    have neB := (N4 _ (List.Mem.head _)).2.1
    have hS4 := hS2.mono (P' := fun b => s.heap.get? b = none) fun b o xs n hP q hd => ⟨by
      have h1 := seq_ne q hd gL hLno
      have h2 := seq_ne q hd ga2 (fun xs n => by rw [da]; exact fun r => nomatch r)
      have h3 := seq_ne q hd gb2 (fun xs n => by rw [db]; exact fun r => nomatch r)
      rcases Hr b o h1 (by simp only [List.mem_cons, List.not_mem_nil, or_false]; rintro (r | r); exact h3 r; exact h2 r) q with r | r
      · exact F4.keep _ _ r
      · exact (N4 _ (List.Mem.tail _ (List.Mem.tail _ r))).1, hP⟩
    obtain ⟨vs, pS, hlS, hpS⟩ := hS4
    refine pyIter_list_src rfl hlS fun h₂ I2 fp wr St Sx => ?_
    refine ⟨⟨I2, fp, wr, _, _, St, fun _ => true, fun j y hh => GrownAt (fun b => s.heap.get? b = none) hh y (grownL ((setsL (es.take i)).getD j ([], 0, 0)) p.1 p.2), _, rfl, Sx.walks, ?_, Sx.start, Sx.lt, Sx.keep, Sx.new, Sx.size, Sx.live, go_name, F4.ns, ?_, ?_⟩⟩
    · rw [List.size_toArray, ← hpS.length]
      have := (setsL_ok (es.take i) (by rw [List.length_take]; (first | (law_clear; lia) | omega))).2
      have h64 : 64 ≤ sizeLine := by decide
      (first | (law_clear; lia) | omega)
    · intro j v C h9 tk m hj hP htk F hgh all Nall Hall
      dsimp only at F Nall Hall hgh
      have Xg := Frag.In.keeps X F4.keep
      have Tg := T.keeps F4.keep
      have hds : (setsL (es.take i)).length = vs.length := hpS.length
      rw [List.size_toArray, ← hds] at hj
      obtain ⟨v', hv', aj, rfl, hOne⟩ := Paired.get hpS (List.getElem?_eq_getElem hj)
      have hv : v = .ref aj := by
        rw [List.getElem?_toArray, hv'] at hP
        exact (Option.some.inj hP).symm
      subst hv
      refine wpAny_assign_Name (st_any F Nall rfl rfl fun h₃ F₃ N₃ => ?_)
      refine wpAny_tests_nil ?_
      rw [if_pos rfl]
      refine ⟨rfl, ?_⟩
      clear F
      k_steps
      rename Fr _ _ _ _ => F9
      rename News _ _ _ _ => N9
      have hOk := setsL_ok (es.take i) (by rw [List.length_take]; (first | (law_clear; lia) | omega))
      have hget : (setsL (es.take i)).getD j ([], 0, 0) = (setsL (es.take i))[j] := by simp [List.getD, hj]
      rw [hget]
      have hl5 := hOk.1 _ (List.getElem_mem hj)
      generalize (setsL (es.take i))[j] = dj at hOne hl5
      have hOne9 := hOne.mono (P' := fun _ => True) fun b o _ _ _ q _ => ⟨F9.keep b o q, trivial⟩
      refine grown_spec aj dj.1 dj.2.1 dj.2.2 _ _ p.1 p.2 hl5 hOne9 hp.1 hp.2 (by first | exact room1 (by assumption) (by rfl) | exact room0 (by assumption) (by rfl) | (simp only [Around.deeper]; (first | (law_clear; lia) | omega))) (by first | exact room1 (by assumption) (by rfl) | exact room0 (by assumption) (by rfl) | (simp only [Around.deeper]; (first | (law_clear; lia) | omega))) (Frag.In.keeps Xg F9.keep) (Tg.keeps F9.keep) fun r h' tk' hk' hr => ?_
      refine ⟨⟨_, _, _, rfl, F9.keeps hk', keeps_all Hall (F9.keeps hk') (N9.grown hk') (fun _ q => q), fun h'' hh => ?_⟩⟩
      unfold GrownAt
      generalize grownL (dj.1, dj.2.1, dj.2.2) p.1 p.2 = od at hr ⊢
      cases od with
      | none => exact hr
      | some d' =>
        obtain ⟨a', rfl, hOne'⟩ := hr
        obtain ⟨oC, _, _, hoC, _⟩ := id F9.ns
        have hoC : h₃.get? C = some oC := hoC
        obtain ⟨oL4, _, _, gL4, _⟩ := id F4.ns
        have gL9 := F9.keep _ _ gL4
        refine ⟨a', rfl, hOne'.mono fun b o xs n hb q hdd => ⟨hh b o (.inl ?_) (fun r => ?_) q, ?_⟩⟩
        · cases z : h9.get? b with
          | none => rfl
          | some o' =>
            by_cases hbC : b = C
            · rw [← hbC] at hoC
              exact absurd (hb.symm.trans hoC) (fun q => nomatch q)
            · have := keeps_all Hall F9 N9 (fun _ q => q) b o' hbC z
              exact absurd (hb.symm.trans this) (fun q => nomatch q)
        · rw [r] at hb
          exact absurd (hb.symm.trans gL9) (fun q => nomatch q)
        · cases z : s.heap.get? b with
          | none => rfl
          | some o' =>
            have := F9.keep _ _ (F4.keep _ _ z)
            exact absurd (hb.symm.trans this) (fun q => nomatch q)
    · intro D h' tk ys hD hpl hpr hns hk
      dsimp only at hD hk ⊢ hns
      obtain ⟨F5, N5⟩ := fin_assign F4 N4 hk hns
      clear hns
      obtain ⟨nD, eD⟩ := id hpl
      have N6 : News s.heap L h' ((D, _) :: _) := fun q hq => by
        rcases List.mem_cons.mp hq with rfl | hq
        · exact ⟨eD, fun r => by
            obtain ⟨oL4, _, _, gL4, _⟩ := id F4.ns
            have := Sx.keep _ _ gL4
            exact absurd ((congrArg h₂.get? r).symm.trans hD |>.symm.trans this) (fun q => nomatch q), by
            cases z : s.heap.get? D with
            | none => rfl
            | some o' => exact absurd (hD.symm.trans (Sx.keep _ _ (F4.keep _ _ z))) (fun q => nomatch q)⟩
        · exact N5 q hq
      k_steps
      refine ⟨?_⟩
      refine' ListComp_my ?hclos ?hcell ?hkind ?hnames ?_ ?hs
      case hclos => with_unfolding_all rfl
      case hcell => decide
      case hkind => with_unfolding_all rfl
      case hnames => decide
      case hs => intro _; with_unfolding_all rfl
      walk1
      rename Fr _ _ _ _ => F7
      rename News _ _ _ _ => N7
      have hlD : h'.IsList D ys.toList.toArray := ⟨_, eD, rfl, nD, rfl⟩
      have hall : (List.range vs.toArray.size).filter (fun _ => true) = List.range (setsL (es.take i)).length := by simp [hpS.length]
      rw [hall] at hpr
      have hyl : (setsL (es.take i)).length = ys.toList.length := by have := hpr.length; simpa using this
      refine pyIter_list_src rfl hlD fun h₂' I3 fp' wr' St' Sy => ?_
      refine ⟨⟨I3, fp', wr', _, _, St', fun j => (grownL ((setsL (es.take i)).getD j ([], 0, 0)) p.1 p.2).isSome, fun j y hh => ∃ d, grownL ((setsL (es.take i)).getD j ([], 0, 0)) p.1 p.2 = some d ∧ ∃ a, y = .ref a ∧ OneAt (fun b => s.heap.get? b = none) hh a d, rfl, Sy.walks, ?_, Sy.start, Sy.lt, Sy.keep, Sy.new, Sy.size, Sy.live, go_name, ?_, ?_⟩⟩
      · rw [List.size_toArray, ← hyl]
        have := (setsL_ok (es.take i) (by rw [List.length_take]; (first | (law_clear; lia) | omega))).2
        have h64 : 64 ≤ sizeLine := by decide
        (first | (law_clear; lia) | omega)
      · intro j v C h9 tk m hj hP htk F hgh all Nall Hall
        dsimp only at F Nall Hall hgh
        rw [List.size_toArray, ← hyl] at hj
        obtain ⟨v', hv', hG⟩ := Paired.get hpr (i := j) (by rw [List.getElem?_range hj])
        have hv : v = v' := by
          rw [List.getElem?_toArray, hv'] at hP
          exact (Option.some.inj hP).symm
        subst hv
        replace hG := hG h' fun _ _ _ e => e
        dsimp only at hG ⊢
        unfold GrownAt at hG
        cases hod : grownL ((setsL (es.take i)).getD j ([], 0, 0)) p.1 p.2 with
        | none =>
          rw [hod] at hG
          obtain rfl : v = .none := hG
          refine wpAny_assign_Name (st_any F Nall rfl rfl fun h₃ F₃ N₃ => ?_)
          refine wpAny_tests_one ?_
          clear F
          k_steps
          rename Fr _ _ _ _ => F₃
          rename News _ _ _ _ => N₃
          exact ⟨⟨rfl, _, _, _, rfl, F₃, keeps_all Hall F₃ N₃ (fun _ q => q), fun _ _ => trivial⟩⟩
        | some d =>
          rw [hod] at hG
          obtain ⟨a', rfl, hOne⟩ := hG
          refine wpAny_assign_Name (st_any F Nall rfl rfl fun h₃ F₃ N₃ => ?_)
          refine wpAny_tests_one ?_
          clear F
          k_steps
          rename Fr _ _ _ _ => F₃
          rename News _ _ _ _ => N₃
          obtain ⟨oL7, _, _, gL7, dL7, _⟩ := id F7.ns
          exact ⟨⟨_, _, _, rfl, F₃, keeps_all Hall F₃ N₃ (fun _ q => q), fun h'' hh => ⟨d, rfl, a', rfl, hOne.mono fun b o xs n hb q hdd => ⟨hh b o (.inr ⟨o, q⟩) (seq_ne q hdd gL7 fun xs n => by rw [dL7]; exact fun r => nomatch r) (F₃.keep b o q), hb⟩⟩⟩⟩
      · intro D2 h8 tk8 ys2 hD2 hpl2 hpr2 hk8
        dsimp only at hD2 hk8 ⊢
        rw [List.size_toArray, ← hyl] at hpr2
        have hpr3 := paired_filter hpr2
        rw [filterMap_range (f := fun d => grownL d p.1 p.2) (setsL (es.take i)) ([], 0, 0)] at hpr3
        have hS5 : SetsAt (fun b => s.heap.get? b = none) h' S (setsL (es.take i)) := SetsAt.mono (P := fun b => s.heap.get? b = none) (h := _) ⟨vs, pS, hlS, hpS⟩ fun b o xs n hP q hdd => ⟨hk b o (by
          obtain ⟨oL4, _, _, gL4, dL4, _⟩ := id F4.ns
          exact seq_ne q hdd gL4 fun xs n => by rw [dL4]; exact fun r => nomatch r) q, hP⟩
        have F8 := F7.keeps hk8
        have hF8 := F8.ns
        have N8 := N7.grown hk8
        obtain ⟨all, Nall, Hall⟩ := all_ex (C := L) F8.keep
        obtain ⟨vs8, pS8, hlS8, hpS8⟩ := hS5.mono (h' := h8) (P' := fun b => s.heap.get? b = none) fun b o xs n hP q _ => ⟨hk8 b o q, hP⟩
        obtain ⟨n8, e8⟩ := id hpl2
        have hl2 : h8.IsList D2 ys2.toList.toArray := ⟨_, e8, rfl, n8, rfl⟩
        have l1 := hpS8.length
        have l2 := hpr3.length
        have l3 := List.length_filterMap_le (fun d => grownL d p.1 p.2) (setsL (es.take i))
        have l4 := (setsL_ok (es.take i) (by rw [List.length_take]; (first | (law_clear; lia) | omega))).2
        have h64 : 128 ≤ sizeLine := by decide
        refine add_lists F8 Nall hlS8 hl2 (fun h10 F10 N10 => ?_) (by (first | (law_clear; lia) | omega))
        clear F7 N7 F8 Nall
        k_steps
        rename Fr _ _ _ _ => F11
        rename News _ _ _ _ => N11
        have k11 := keeps_all Hall F11 N11 (fun q hq => by first | exact hq | exact List.mem_cons_of_mem _ hq)
        have nD3 := N11 _ (List.Mem.head _)
        have hk9 : ∀ b o, b ≠ L → h'.get? b = some o → _ := fun b o hb q => k11 b o hb (hk8 b o q)
        refine ⟨hK (es.length - (i + 1)) _ (Nat.sub_succ_lt_self _ _ hlt) ⟨i + 1, _, _, _, _, _, _, _, _, rfl, hlt, rfl, F11, rfl, Heap.IsListIter.at hit4 fun o q => hk9 I o hIL (hk I o hIL q), hk9 _ _ (Nat.succ_ne_self _) (hk _ _ (Nat.succ_ne_self _) cA), by assumption, hk9 _ _ neB (hk _ _ neB cB), by assumption, ?_⟩⟩
        rw [hs1]
        have hne : ∀ b o xs n, h8.get? b = some o → o.data = .seq xs n → b ≠ L := fun b o xs n q hd => by
          obtain ⟨oL8, _, _, gL8, dL8, _⟩ := id hF8
          exact seq_ne q hd gL8 fun xs n => by rw [dL8]; exact fun r => nomatch r
        have mono8 : ∀ b o xs n, s.heap.get? b = none → h8.get? b = some o → o.data = .seq xs n → _ = some o ∧ s.heap.get? b = none := fun b o xs n hP q hd => ⟨k11 b o (hne b o xs n q hd) q, hP⟩
        exact ⟨vs8 ++ ys2.toList, nD3.2.2, ⟨_, nD3.1, rfl, _, rfl⟩, Paired.app (hpS8.mono fun d v ⟨a, e, ha⟩ => ⟨a, e, ha.mono mono8⟩) (hpr3.mono fun d v ⟨a, e, ha⟩ => ⟨a, e, ha.mono mono8⟩)⟩
end
section
open PySem PySem.W PyProof.Rows PySem.Calls
set_option Elab.async false
set_option maxRecDepth 100000
set_option maxHeartbeats 2000000
set_option pp.deepTerms false
set_option pp.deepTerms.threshold 4
set_option pp.proofs false

noncomputable def spareL : List Int := [2, 32, 512, 4097, 4112, 4352, 65537, 65552, 65792]
noncomputable def tiesStep (a : List Int) (x : Int) : List Int := if spareL.getD (x.fmod 9).toNat 0 ∈ a then a else a ++ [spareL.getD (x.fmod 9).toNat 0]
noncomputable def tiesF (l : List Int) : List Int := l.foldl tiesStep [17, 257, 272]

theorem tiesEnd1 {pre ties : List Int} {k : Int} (h : ties = tiesF pre) (hl : ties.length ≤ 3 + pre.length) (ha : (ties.any fun x => x == spareL.getD (k.fmod 9).toNat 0) = true) : ties = tiesF (pre ++ [k]) ∧ ties.length ≤ 3 + (pre ++ [k]).length := by
  refine ⟨?_, by rw [List.length_append]; (first | (law_clear; lia) | omega)⟩
  obtain ⟨x, hx, e⟩ := List.any_eq_true.mp ha
  have e := beq_iff_eq.mp e
  subst e
  unfold tiesF at h ⊢
  rw [List.foldl_append, ← h]
  show ties = tiesStep ties k
  unfold tiesStep
  rw [if_pos hx]
theorem tiesEnd2 {pre ties : List Int} {k : Int} (h : ties = tiesF pre) (hl : ties.length ≤ 3 + pre.length) (ha : (ties.any fun x => x == spareL.getD (k.fmod 9).toNat 0) = false) : ties ++ [spareL.getD (k.fmod 9).toNat 0] = tiesF (pre ++ [k]) ∧ (ties ++ [spareL.getD (k.fmod 9).toNat 0]).length ≤ 3 + (pre ++ [k]).length := by
  refine ⟨?_, by simp only [List.length_append, List.length_cons, List.length_nil]; (first | (law_clear; lia) | omega)⟩
  have hn : spareL.getD (k.fmod 9).toNat 0 ∉ ties := fun q => by
    have : (ties.any fun x => x == spareL.getD (k.fmod 9).toNat 0) = true := List.any_eq_true.mpr ⟨_, q, beq_self_eq_true (spareL.getD (k.fmod 9).toNat 0)⟩
    rw [ha] at this
    cases this
  unfold tiesF at h ⊢
  rw [List.foldl_append, ← h]
  show _ = tiesStep ties k
  unfold tiesStep
  rw [if_neg hn]
theorem ties_spec {w : World} {dp un : Nat} {fr : Option (List Env)} {gd : Option (List Code)} {Q E : Value → Shared → Prop} {s : Shared} {loose : List Str} {mean : ExcName → Option Value} {mg mb : Str → Option Value}
  (a : Addr) (vs : List Value) (script : List Int) (hlen : script.length ≤ 63) (hL : s.heap.IsList a vs.toArray) (hI : IntsAre vs script)
  (hd1 : dp + 10 < recursionLimit) (hu : un + 50 < cLine) (X : (hd.heap_39 w.params).In s.heap) (T : Top hd.view_39 loose mean mg mb s.heap)
  (hpost : ∀ r h' tk l us, (∀ b o, s.heap.get? b = some o → h'.get? b = some o) → s.heap.get? r = none → l.length = 3 → h'.IsList r us.toArray → IntsAre us (tiesF l) → Q (.ref r) { s with heap := h', toks := tk }) :
  wpAny (model PySem.Challenge.rw_wn0101_01.row.prog w) (AA dp un fr gd) (call (.ref 144) [.ref a]) Q E s := by
  revert X
  k_with_none
  w_top off
  k_fill
  intro X
  (refine' enter ?X ?T ?k6 ?k7 ?k8 ?k9 ?kB ?_ ?c2 ?c3 ?c4 ?c5; (case X => assumption); (case T => assumption); (case k6 => k_is); (case k7 => k_is); (case k8 => (dsimp only [AA]; (first | (law_clear; lia) | omega))); (case k9 => first | exact BindsTo.of_eq rfl | exact binds_K (by k_in) rfl (by k_is) rfl rfl rfl); (case c5 => decide); (case kB => exact locs rfl); (case c2 => exact rfl); (case c3 => exact rfl); (case c4 => exact rfl))
  intro L h₁ F
  have N : News s.heap L h₁ [] := News.nil
  k_with "pyIter ref" => (k_of "k" => k_state (fun pre sums => sums.length = 3) "sums")
  k_with "pyIter ref" => (k_of "x" => k_state (fun pre ties => ties = tiesF pre ∧ ties.length ≤ 3 + pre.length) "ties")
  k_with "state" => (first | exact tiesEnd1 (by assumption) (by assumption) (by assumption) | exact tiesEnd2 (by assumption) (by assumption) (by assumption) | kst_p1)
  k_steps
  rename Fr _ _ _ _ => FF
  rename News _ _ _ _ => NN
  have n1 := NN _ (List.Mem.head _)
  refine hpost _ _ _ _ _ FF.keep n1.2.2 (by assumption) ⟨_, n1.1, rfl, _, rfl⟩ ?_
  rename (_ = tiesF _) => h9
  rw [← h9]
  assumption
end
section
open PySem PySem.W PyProof.Rows PySem.Calls
set_option Elab.async false
set_option maxRecDepth 100000
set_option maxHeartbeats 2000000
set_option pp.deepTerms false
set_option pp.deepTerms.threshold 4
set_option pp.proofs false
theorem enter_code {w : World} {A : Around} {R : Result → Shared → Prop} {s : Shared} {p : Program} {loose : List Str} {mean : ExcName → Option Value} {mg mb : Str → Option Value} {K : Frag}
    {name qual : Str} {params : Arguments} {body : List Stmt} {scope : Scope} {dV kV doc pm cdv ct oc : Value} {an od : Option Addr} {osl : Array (Option Value)} {f : Addr} {args : Args} {binds : List (Str × Value)}
    (X : K.In s.heap) (T : Top p loose mean mg mb s.heap)
    (ho : K.lookup f = some ⟨oc, od, .func (fnOf name qual params body scope dV kV doc pm an cdv ct), osl⟩)
    (hcd : codeIn K cdv qual = true) (hroom : A.depth < recursionLimit)
    (hbind : BindsTo s (fnOf name qual params body scope dV kV doc pm an cdv ct) args binds) (hloc : ∀ y ∈ binds, scope.names.lookup y.1 = some .local)
    (h : ∀ L h₁, Fr s.heap L h₁ (fun y => binds.reverse.lookup y) →
      wpAny (model PySem.Challenge.rw_wn0101_01.row.prog w) (A.deeper (envOf qual scope L f cdv)) (execs body (envOf qual scope L f cdv))
        (fun fl s' => R (.ok (.ret (match fl with | .ret v => v | _ => .none))) s') (fun _ _ => False)
        { s with heap := h₁, toks := s.toks + binds.length })
    (hco : scope.isCoroutine = false) (hgen : scope.isGenerator = false) (hk : scope.kind = .function)
    (hcell : ∀ x ∈ scope.names, x.2 ≠ .cell) :
    codeAny (model PySem.Challenge.rw_wn0101_01.row.prog w) A (.call (.ref f) args) R s := by
  refine codeAny_call_def (fd := fnOf name qual params body scope dV kV doc pm an cdv ct) (body := body) (binds := binds) hroom (X _ _ ho) rfl T.nolimit (codeRec_of X hcd) rfl hbind hcell hloc (fun h₁ hns hk₁ => ?_) hco hgen hk
  exact wpAny_mono (h _ h₁ ⟨hns, hk₁, Nat.le_refl _⟩) (fun _ _ y => y) fun _ _ y => y.elim

theorem make_my {w : World} {A : Around} {Q E : Value → Shared → Prop} {s : Shared} {K : Frag} {C fI : Addr} {rest : List Value} {kw : List (Str × Value)} (X : K.In s.heap) (hm : makesIn K C = true)
    (hi : findIn K (.ref C) "__init__" = some (some (.ref fI))) (hf : typeIn K (.ref fI) = some (.type "function"))
    (h : ∀ x dx h', (∀ b o, s.heap.get? b = some o → h'.get? b = some o) → s.heap.objs.size ≤ h'.objs.size → h'.get? x = some (instObj C dx) → h'.get? dx = some emptyDict → s.heap.get? x = none → s.heap.get? dx = none → x < h'.objs.size → dx < x →
      codeAny (model PySem.Challenge.rw_wn0101_01.row.prog w) (A.under (.builtin "type.__call__" ⟨.ref C :: rest, kw⟩)) (.call (.ref fI) ⟨.ref x :: rest, kw⟩) (InitBack x fun r s' => match r with | .ok (.ret v) => Q v s' | .ok _ => False | .error e => E e s') { s with heap := h' }) :
    wpAny (model PySem.Challenge.rw_wn0101_01.row.prog w) A (call (.ref C) rest kw) Q E s := by
  obtain ⟨hh, g, d, t, os⟩ := s
  refine wpAny_call (make_core (makes_of X hm) (looks_findIn X hi) (fun self => bind_fn X self hf) (.inl rfl) (h _ hh.objs.size _ (fun b o e => Heap.get?_push_of_some _ (Heap.get?_push_of_some _ e)) ?_ ?_ ?_ ?_ ?_ ?_ (Nat.lt_succ_self _)))
  · rw [Heap.size_push, Heap.size_push]; exact Nat.le_succ_of_le (Nat.le_succ _)
  · exact by heap_get
  · exact Heap.get?_push_of_some _ (Heap.get?_push_size _ rfl)
  · cases e : hh.get? (hh.objs.size + 1) with
    | none => rfl
    | some o => exact absurd (Heap.lt_size e) (Nat.not_lt.mpr (Nat.le_succ _))
  · cases e : hh.get? hh.objs.size with
    | none => rfl
    | some o => exact absurd (Heap.lt_size e) (Nat.lt_irrefl _)
  · rw [Heap.size_push, Heap.size_push]; exact Nat.lt_succ_self _

/-- the state of the loop: count, b, n, nt -/
noncomputable abbrev WsSt := List Int × Nat × Nat × Nat
noncomputable def wsStep (st : WsSt) (c : Nat) : WsSt :=
  if c = 32 then (st.1, st.2.1 + 1, st.2.2.1 + 1, st.2.2.2)
  else
    let cnt := if st.1.length ≤ st.2.1 then st.1 ++ List.replicate (st.2.1 - st.1.length + 1) 0 else st.1
    (cnt.set st.2.1 (cnt.getD st.2.1 0 + 1), 0, st.2.2.1 + 1, st.2.2.2 + 1)
noncomputable def wsRun (l : List Nat) : WsSt := l.foldl wsStep ([], 0, 0, 0)
theorem wsRun_bound (l : List Nat) : (wsRun l).1.length ≤ l.length ∧ (wsRun l).2.1 ≤ l.length := by
  have gen : ∀ (l : List Nat) (st : WsSt) (k : Nat), st.1.length ≤ k → st.2.1 ≤ k → (l.foldl wsStep st).1.length ≤ k + l.length ∧ (l.foldl wsStep st).2.1 ≤ k + l.length := by
    intro l
    induction l with
    | nil => intro st k h1 h2; exact ⟨h1, h2⟩
    | cons c l ih =>
      intro st k h1 h2
      have := ih (wsStep st c) (k + 1) (by
        unfold wsStep
        split
        · dsimp only; (first | (law_clear; lia) | omega)
        · dsimp only
          rw [List.length_set]
          split
          · rw [List.length_append, List.length_replicate]; (first | (law_clear; lia) | omega)
          · (first | (law_clear; lia) | omega)) (by
        unfold wsStep
        split <;> dsimp only <;> (first | (law_clear; lia) | omega))
      rw [List.foldl_cons, List.length_cons]
      (first | (law_clear; lia) | omega)
  have := gen l ([], 0, 0, 0) 0 (by simp) (by simp)
  unfold wsRun
  (first | (law_clear; lia) | omega)
theorem fr_name {g h : Heap} {L : Addr} {m : Str → Option Value} (a : Str) (v : Value) (F : Fr g L h m) (e : m a = some v) : Fr g L h (fun y => if y = a then some v else m y) := by
  have : m = fun y => if y = a then some v else m y := by
    funext y
    by_cases h1 : y = a
    · rw [if_pos h1, h1]; exact e
    · rw [if_neg h1]
  rwa [this] at F
theorem pyIter_ascii_abs {prog : Program} {w : World} {A : Around} {E : Value → Shared → Prop} {s : Shared} {g : Heap} {L : Addr} {m : Str → Option Value} {x : Str} {t : Tok} {Q : Value → Shared → Prop} (F : Fr g L s.heap m) (ha : x.cps.all (· < 128) = true)
    (h : ∀ h₂ I, h₂.IsStrIter I "str_ascii_iterator" x t 0 → g.get? I = none → I ≠ L → (∀ b o, s.heap.get? b = some o → h₂.get? b = some o ∧ @LT.lt Nat _ b I) → Q (.ref I) { s with heap := h₂ }) : wpAny (model prog w) A (pyIter (.str x t)) Q E s :=
  wpAny_pyIter_ascii ha (h _ _ ⟨_, Heap.get?_push_size _ rfl, rfl, rfl⟩ (none_at_size F) (Nat.ne_of_gt F.ns.lt) fun _ _ e => ⟨Heap.get?_push_of_some _ e, Heap.lt_size e⟩)
theorem ne_of_get {h : Heap} {a b : Addr} {o o' : Obj} (ha : h.get? a = some o) (hb : h.get? b = some o') (hn : o ≠ o') : @Ne Nat a b := fun r => by
  have r : a = b := r
  subst r
  rw [ha] at hb
  exact hn (Option.some.inj hb)
theorem news4 {g h : Heap} {L a b c d : Addr} {oa ob oc od : Obj} (ha : h.get? a = some oa ∧ a ≠ L ∧ g.get? a = none) (hb : h.get? b = some ob ∧ b ≠ L ∧ g.get? b = none) (hc : h.get? c = some oc ∧ c ≠ L ∧ g.get? c = none) (hd : h.get? d = some od ∧ d ≠ L ∧ g.get? d = none) : News g L h [(a, oa), (b, ob), (c, oc), (d, od)] := by
  intro p hp
  simp only [List.mem_cons, List.not_mem_nil, or_false] at hp
  rcases hp with rfl | rfl | rfl | rfl <;> assumption
noncomputable abbrev wsM (st : WsSt) (tt tn tb : Tok) (C xo : Addr) (m : Str → Option Value) : Str → Option Value := fun y => if y = Str.ofString "nt" then some (.int st.2.2.2 tt) else if y = Str.ofString "n" then some (.int st.2.2.1 tn) else if y = Str.ofString "b" then some (.int st.2.1 tb) else if y = Str.ofString "count" then some (.ref C) else if y = Str.ofString "self" then some (.ref xo) else if y = Str.ofString "S" then some (.str (Str.ofString " ") 279) else if y = Str.ofString "T" then some (.str (Str.ofString "\t") 280) else m y
theorem wsM_of {g h : Heap} {L : Addr} {m : Str → Option Value} {st : WsSt} {tt tn tb : Tok} {C xo : Addr} (F : Fr g L h m) (e1 : m (Str.ofString "nt") = some (.int st.2.2.2 tt)) (e2 : m (Str.ofString "n") = some (.int st.2.2.1 tn)) (e3 : m (Str.ofString "b") = some (.int st.2.1 tb)) (e4 : m (Str.ofString "count") = some (.ref C)) (e5 : m (Str.ofString "self") = some (.ref xo)) (e6 : m (Str.ofString "S") = some (.str (Str.ofString " ") 279)) (e7 : m (Str.ofString "T") = some (.str (Str.ofString "\t") 280)) : Fr g L h (wsM st tt tn tb C xo m) := by
  have F7 := fr_name _ _ F e7
  have F6 := fr_name (Str.ofString "S") _ F7 (by exact e6)
  have F5 := fr_name (Str.ofString "self") _ F6 (by exact e5)
  have F4 := fr_name (Str.ofString "count") _ F5 (by exact e4)
  have F3 := fr_name (Str.ofString "b") _ F4 (by exact e3)
  have F2 := fr_name (Str.ofString "n") _ F3 (by exact e2)
  exact fr_name (Str.ofString "nt") _ F2 (by exact e1)
noncomputable abbrev wsDict (P : Params) (x : Str) (t k1 k2 k3 k4 k5 : Tok) (n : Int) (tn : Tok) (nt : Int) (tt : Tok) (a : Addr) (sm : Bool) : Obj := dictOf [
  { hash := PyData.keyHash P (Str.ofString "raw"), key := .str (Str.ofString "raw") k1, val := .str x t }, { hash := PyData.keyHash P (Str.ofString "n"), key := .str (Str.ofString "n") k2, val := .int n tn },
  { hash := PyData.keyHash P (Str.ofString "nt"), key := .str (Str.ofString "nt") k3, val := .int nt tt }, { hash := PyData.keyHash P (Str.ofString "norm"), key := .str (Str.ofString "norm") k4, val := .ref a },
  { hash := PyData.keyHash P (Str.ofString "is_simple"), key := .str (Str.ofString "is_simple") k5, val := .bool sm }] 5
theorem ws_spec {w : World} {dp un : Nat} {fr : Option (List Env)} {gd : Option (List Code)} {Q E : Value → Shared → Prop} {s : Shared} {loose : List Str} {mean : ExcName → Option Value} {mg mb : Str → Option Value}
  (x : Str) (t : Tok) (hx : ∀ c ∈ x.cps, c = 32 ∨ c = 9) (hsz : x.cps.size ≤ 1000)
  (hd1 : dp + 10 < recursionLimit) (hu : un + 50 < cLine) (X : (hd.heap_39 w.params).In s.heap) (T : Top hd.view_39 loose mean mg mb s.heap)
  (hpost : ∀ xo dx an ac ws k1 k2 k3 k4 k5 tn tt tb sm ka kc h' tk, (∀ b o, s.heap.get? b = some o → h'.get? b = some o) → h'.get? xo = some (instObj 133 dx) → h'.get? dx = some (wsDict w.params x t k1 k2 k3 k4 k5 (wsRun x.cps.toList).2.2.1 tn (wsRun x.cps.toList).2.2.2 tt an sm) →
    h'.get? an = some { cls := .type "tuple", data := .seq #[.ref ac, .int (wsRun x.cps.toList).2.1 tb] ka } → h'.get? ac = some { cls := .type "tuple", data := .seq (List.toArray ws) kc } → IntsAre ws (wsRun x.cps.toList).1 →
    s.heap.get? xo = none → s.heap.get? dx = none → s.heap.get? an = none → s.heap.get? ac = none → Q (.ref xo) { s with heap := h', toks := tk }) :
  wpAny (model PySem.Challenge.rw_wn0101_01.row.prog w) (AA dp un fr gd) (call (.ref 133) [.str x t]) Q E s := by
  revert X
  k_with_none
  w_top off
  k_with "exec For Name Attribute cons nil" => (with_reducible (refine stopHere ?_))
  k_fill
  intro X
  refine make_my (fI := 88) X (by k_is) (by k_is) (by k_is) fun xo dx h' hk' hz' gx gd' nx nd lx ld => ?_
  refine' enter_code (X.keeps hk') (T.keeps hk') ?k6 ?k7 ?k8 ?k9 ?kB ?_ ?c2 ?c3 ?c4 ?c5
  case k6 => k_is
  case k7 => k_is
  case k8 => (simp only [depth_under_make]; (first | (law_clear; lia) | omega))
  case k9 => first | exact BindsTo.of_eq rfl | exact binds_K (by k_in) rfl (by k_is) rfl rfl rfl
  case c5 => decide
  case kB => exact locs rfl
  case c2 => exact rfl
  case c3 => exact rfl
  case c4 => exact rfl
  intro L h₁ F0
  refine abs_post fun QQ hQQ => ?_
  have F : Fr s.heap L h₁ _ := ⟨F0.ns, fun b o e => F0.keep b o (hk' b o e), Nat.le_trans hz' F0.above⟩
  have N : News s.heap L h₁ [(xo, instObj 133 dx), (dx, dictOf [] 0)] := by
    intro p hp
    simp only [List.mem_cons, List.not_mem_nil, or_false] at hp
    rcases hp with rfl | rfl
    · exact ⟨F0.keep _ _ gx, Nat.ne_of_lt (Nat.lt_of_lt_of_le lx F0.above), nx⟩
    · exact ⟨F0.keep _ _ gd', Nat.ne_of_lt (Nat.lt_of_lt_of_le (Nat.lt_trans ld lx) F0.above), nd⟩
  clear F0
  replace ld : @LT.lt Nat _ dx xo := ld
  dsimp only
  repeat (refine wpAny_execs_cons ?_; repeat walk1)
  refine ⟨?_⟩
  refine For_pure ?_ (by intro _; rfl)
  repeat walk1
  rename Fr _ _ _ _ => F5
  rename News _ _ _ _ => N5
  have ha : x.cps.all (· < 128) = true := by
    rw [Array.all_eq_true']
    intro c hc
    rcases hx c hc with rfl | rfl <;> decide
  refine pyIter_ascii_abs F5 ha fun h6 I hit0 hIs hIL hk6 => ?_
  have nC := N5 _ (List.Mem.head _)
  have gxo := (N5 _ (List.Mem.tail _ (List.Mem.tail _ (List.Mem.head _)))).1
  have gdx := (N5 _ (List.Mem.tail _ (List.Mem.tail _ (List.Mem.tail _ (List.Mem.head _))))).1
  dsimp only at nC gxo gdx
  have gdx : ∃ od, od = _ ∧ _ = some od := ⟨_, rfl, gdx⟩
  obtain ⟨od, hod, gdx⟩ := gdx
  have nxL : xo ≠ L := (N5 _ (List.Mem.tail _ (List.Mem.tail _ (List.Mem.head _)))).2.1
  have ndL : dx ≠ L := (N5 _ (List.Mem.tail _ (List.Mem.tail _ (List.Mem.tail _ (List.Mem.head _))))).2.1
  have ltC := (hk6 _ _ nC.1).2
  have ltxo := (hk6 _ _ gxo).2
  obtain ⟨oI, hoI, _⟩ := id hit0
  have F6 := wsM_of (st := ([], 0, 0, 0)) (F5.keeps fun b o e => (hk6 b o e).1) rfl rfl rfl rfl rfl rfl rfl
  have N6 := news4 ⟨(hk6 _ _ nC.1).1, nC.2⟩ ⟨hoI, hIL, hIs⟩ ⟨(hk6 _ _ gxo).1, nxL, nx⟩ ⟨(hk6 _ _ gdx).1, ndL, nd⟩
  rename (_ < _ ∧ _ < _ ∧ _ < _) => hl9
  refine ⟨fun k s' => ∃ (i : Nat) (h : Heap) (tk : Nat) (m : Str → Option Value) (C : Addr) (vs : List Value) (nn : Nat) (oI : Obj) (tb tn tt : Tok), s' = { s with heap := h, toks := tk } ∧ i ≤ x.cps.size ∧ k = x.cps.size - i ∧
    Fr s.heap L h (wsM (wsRun (x.cps.toList.take i)) tt tn tb C xo m) ∧
    h.IsStrIter I "str_ascii_iterator" x t i ∧ News s.heap L h [(C, W.listOf vs.toArray nn), (I, oI), (xo, instObj 133 dx), (dx, od)] ∧ @Ne Nat C I ∧ @LT.lt Nat _ xo C ∧ @LT.lt Nat _ dx C ∧ IntsAre vs (wsRun (x.cps.toList.take i)).1, x.cps.size,
    ⟨0, h6, _, _, _, [], 0, oI, _, _, _, rfl, Nat.zero_le _, rfl, F6, hit0, N6, Nat.ne_of_lt ltC, hl9.2.1, hl9.2.2, .nil⟩, ?_⟩
  clear F6 N6 F5 N5 hoI
  have hod' := hod
  clear hod
  rintro k s' htk ⟨i, h9, tk, m, C, vs, nn, oI, tb, tn, tt, rfl, hi, rfl, F, hit, N, hCI, hxC, hdC, hvs⟩ K hK Q' hQ'
  have hst : (wsRun (x.cps.toList.take i)).1.length ≤ 1000 ∧ (wsRun (x.cps.toList.take i)).2.1 ≤ 1000 :=
    ⟨Nat.le_trans (wsRun_bound _).1 (Nat.le_trans (List.length_take_le _ _) (Nat.le_trans hi hsz)), Nat.le_trans (wsRun_bound _).2 (Nat.le_trans (List.length_take_le _ _) (Nat.le_trans hi hsz))⟩
  by_cases hin : i = x.cps.size
  · subst hin
    refine wpAny_pyNext_ascii_end rfl hit (by simp) fun h' he' => ?_
    refine wpAny_execs_nil ?_
    refine hQ' _ _ ?_
    have F' : Fr s.heap L h' _ := ⟨F.ns.at' fun o q => he' L o (Ne.symm hIL) q, fun b o q => he' b o (fun r => by rw [r, hIs] at q; cases q) (F.keep b o q), F.above⟩
    have N' : News s.heap L h' [(C, W.listOf vs.toArray nn), (xo, instObj 133 dx), (dx, od)] := by
      intro p hp
      simp only [List.mem_cons, List.not_mem_nil, or_false] at hp
      rcases hp with rfl | rfl | rfl
      · exact ⟨he' _ _ hCI (N _ (List.Mem.head _)).1, (N _ (List.Mem.head _)).2⟩
      · exact ⟨he' _ _ (Nat.ne_of_lt ltxo) (N _ (List.Mem.tail _ (List.Mem.tail _ (List.Mem.head _)))).1, nxL, nx⟩
      · exact ⟨he' _ _ (Nat.ne_of_lt (Nat.lt_trans ld ltxo)) (N _ (List.Mem.tail _ (List.Mem.tail _ (List.Mem.tail _ (List.Mem.head _))))).1, ndL, nd⟩
    clear F N
    rw [hod'] at N'
    have htk' : x.cps.toList.take x.cps.size = x.cps.toList := List.take_of_length_le (by simp)
    rw [htk'] at hst hvs F'
    generalize wsRun x.cps.toList = st at *
    obtain ⟨cnt, b, n, nt⟩ := st
    dsimp only [wsM] at F' hvs hst ⊢
    k_steps
    rename News _ _ _ _ => N9
    have hne := ne_of_get (N9 _ (List.Mem.tail _ (List.Mem.head _))).1 (N9 _ (List.Mem.tail _ (List.Mem.tail _ (List.Mem.tail _ (List.Mem.tail _ (List.Mem.head _)))))).1 (fun r => by have := congrArg Obj.data r; cases this)
    dsimp only at hne
    k_steps
    rename News _ _ _ _ => N9
    rename Fr _ _ _ _ => F9
    have g1 := N9 _ (List.Mem.head _)
    have g2 := N9 _ (List.Mem.tail _ (List.Mem.head _))
    have gx := N9 _ (List.Mem.tail _ (List.Mem.tail _ (List.Mem.tail _ (List.Mem.head _))))
    have gq := N9 _ (List.Mem.tail _ (List.Mem.tail _ (List.Mem.tail _ (List.Mem.tail _ (List.Mem.head _)))))
    exact hQQ _ _ ⟨rfl, hpost xo dx _ _ vs _ _ _ _ _ _ _ _ _ _ _ _ _ F9.keep gx.1 gq.1 g1.1 g2.1 hvs nx nd g1.2.2 g2.2.2⟩
  · have hlt : i < x.cps.size := Nat.lt_of_le_of_ne hi hin
    clear hin
    have hs1 : wsRun (x.cps.toList.take (i + 1)) = wsStep (wsRun (x.cps.toList.take i)) x.cps[i] := by
      unfold wsRun
      rw [List.take_add_one, List.getElem?_eq_getElem (by simpa using hlt)]
      simp only [Option.toList_some, List.foldl_append, List.foldl_cons, List.foldl_nil, Array.getElem_toList]
    have hc := hx x.cps[i] (Array.getElem_mem hlt)
    refine wpAny_pyNext_ascii_item hit (c := x.cps[i]) (by simp [hlt]) fun h2 hit2 hs2 => ?_
    replace hs2 : Heap.SameBut I h9 h2 := hs2
    have hk2 : ∀ b o, b ≠ I → h9.get? b = some o → h2.get? b = some o := fun b o hb q => hs2.extBut b o hb q
    obtain ⟨oI2, hoI2, hcd⟩ := id hit2
    have F2 : Fr s.heap L h2 _ := ⟨F.ns.at' fun o q => hk2 L o (Ne.symm hIL) q, fun b o q => hk2 b o (fun r => by rw [r, hIs] at q; cases q) (F.keep b o q), F.above⟩
    have N2 := news4 (h := h2) ⟨hk2 _ _ hCI (N _ (List.Mem.head _)).1, (N _ (List.Mem.head _)).2⟩ ⟨hoI2, hIL, hIs⟩ ⟨hk2 _ _ (Nat.ne_of_lt ltxo) (N _ (List.Mem.tail _ (List.Mem.tail _ (List.Mem.head _)))).1, nxL, nx⟩ ⟨hk2 _ _ (Nat.ne_of_lt (Nat.lt_trans ld ltxo)) (N _ (List.Mem.tail _ (List.Mem.tail _ (List.Mem.tail _ (List.Mem.head _))))).1, ndL, nd⟩
    clear F N
    generalize x.cps[i] = c at *
    generalize wsRun (x.cps.toList.take i) = st at *
    obtain ⟨cnt, b, n, nt⟩ := st
    dsimp only [wsM] at F2 hvs hst ⊢
    rcases hc with rfl | rfl
    · refine wpAny_pure ?_
      k_steps
      rename Fr _ _ _ _ => F3
      rename News _ _ _ _ => N3
      refine ⟨hK (x.cps.size - (i + 1)) _ (Nat.sub_succ_lt_self _ _ hlt) ⟨i + 1, _, _, _, C, vs, nn, oI2, _, _, _, rfl, hlt, rfl, by rw [hs1]; exact wsM_of F3 rfl rfl rfl rfl rfl rfl rfl, ⟨oI2, (N3 _ (List.Mem.tail _ (List.Mem.head _))).1, hcd⟩, N3, hCI, hxC, hdC, by rw [hs1]; exact hvs⟩⟩
    · refine wpAny_pure ?_
      k_steps
      · rename Fr _ _ _ _ => F3
        rename News _ _ _ _ => N3
        rename (_ ≤ _) => hle
        have hle' : cnt.length ≤ b := Int.ofNat_le.mp hle
        rename (_ < _ ∧ _ < _ ∧ _ < _ ∧ _ < _ ∧ _ < _ ∧ _ < _) => hl6
        have hs2 : wsStep (cnt, b, n, nt) 9 = ((cnt ++ List.replicate (b - cnt.length + 1) 0).set b ((cnt ++ List.replicate (b - cnt.length + 1) 0).getD b 0 + 1), 0, n + 1, nt + 1) := by
          rw [wsStep, if_neg (by decide)]
          dsimp only
          rw [if_pos hle']
        refine ⟨hK (x.cps.size - (i + 1)) _ (Nat.sub_succ_lt_self _ _ hlt) ⟨i + 1, _, _, _, _, _, _, oI2, _, _, _, rfl, hlt, rfl, by rw [hs1, hs2]; exact wsM_of F3 rfl rfl rfl rfl rfl rfl rfl, ⟨oI2, (N3 _ (List.Mem.tail _ (List.Mem.tail _ (List.Mem.tail _ (List.Mem.tail _ (List.Mem.head _)))))).1, hcd⟩, news4 (N3 _ (List.Mem.head _)) (N3 _ (List.Mem.tail _ (List.Mem.tail _ (List.Mem.tail _ (List.Mem.tail _ (List.Mem.head _)))))) (N3 _ (List.Mem.tail _ (List.Mem.tail _ (List.Mem.tail _ (List.Mem.tail _ (List.Mem.tail _ (List.Mem.head _))))))) (N3 _ (List.Mem.tail _ (List.Mem.tail _ (List.Mem.tail _ (List.Mem.tail _ (List.Mem.tail _ (List.Mem.tail _ (List.Mem.head _)))))))), Nat.ne_of_gt hl6.2.2.2.1, hl6.2.2.2.2.1, hl6.2.2.2.2.2, ?_⟩⟩
        rw [hs1, hs2]
        have e1 : ((b : Int) - (cnt.length : Int) + 1).toNat = b - cnt.length + 1 := by rw [← Int.ofNat_sub hle']; rfl
        have e2 : (List.replicate (b - cnt.length + 1) [(0 : Int)]).flatten = List.replicate (b - cnt.length + 1) 0 := List.flatten_replicate_singleton
        rename IntsAre (List.set _ _ _) _ => hi9
        dsimp only at hi9
        simp only [e1, e2, Int.toNat_natCast] at hi9 ⊢
        exact hi9
      · rename Fr _ _ _ _ => F3
        rename News _ _ _ _ => N3
        rename (¬ _ ≤ _) => hle
        have hle' : ¬ cnt.length ≤ b := fun q => hle (Int.ofNat_le.mpr q)
        have hs2 : wsStep (cnt, b, n, nt) 9 = (cnt.set b (cnt.getD b 0 + 1), 0, n + 1, nt + 1) := by
          rw [wsStep, if_neg (by decide)]
          dsimp only
          rw [if_neg hle']
        refine ⟨hK (x.cps.size - (i + 1)) _ (Nat.sub_succ_lt_self _ _ hlt) ⟨i + 1, _, _, _, C, _, _, oI2, _, _, _, rfl, hlt, rfl, by rw [hs1, hs2]; exact wsM_of F3 rfl rfl rfl rfl rfl rfl rfl, ⟨oI2, (N3 _ (List.Mem.tail _ (List.Mem.head _))).1, hcd⟩, N3, hCI, hxC, hdC, ?_⟩⟩
        rw [hs1, hs2]
        rename IntsAre (List.set _ _ _) _ => hi9
        dsimp only at hi9 ⊢
        simp only [Int.toNat_natCast] at hi9 ⊢
        exact hi9
end
section
open PySem PySem.W PyProof.Rows PySem.Calls
set_option Elab.async false
/-- places in rising order -/
noncomputable abbrev Rises (xs : Array Nat) : Prop := xs.toList.Pairwise (· < ·)
theorem Rises.get {xs : Array Nat} (h : Rises xs) {i j : Nat} (hij : i < j) (hj : j < xs.size) : xs.getD i 0 < xs.getD j 0 := by
  have hi : i < xs.size := Nat.lt_trans hij hj
  have := List.pairwise_iff_getElem.mp h i j (by simpa using hi) (by simpa using hj) hij
  simpa [Array.getD, hi, hj] using this
theorem mid_lt {lo hi : Nat} (h : lo < hi) : lo ≤ (lo + hi) / 2 ∧ (lo + hi) / 2 < hi := by (first | (law_clear; lia) | omega)
theorem mid_up {lo hi m f : Nat} (a : hi - lo ≤ f + 1) (b : lo ≤ m ∧ m < hi) : hi - (m + 1) ≤ f ∧ m - lo ≤ f := by (first | (law_clear; lia) | omega)
/-- b is the place of j among the rising xs -/
structure Bel (xs : Array Nat) (j b : Nat) : Prop where
  le : b ≤ xs.size
  lo : ∀ i, i < b → xs.getD i 0 < j
  hi : ∀ i, b ≤ i → i < xs.size → j ≤ xs.getD i 0
theorem below_go {xs : Array Nat} {j : Nat} (h : Rises xs) : ∀ (fuel lo hi : Nat), lo ≤ hi → hi ≤ xs.size → hi - lo ≤ fuel → (∀ i, i < lo → xs.getD i 0 < j) → (∀ i, hi ≤ i → i < xs.size → j ≤ xs.getD i 0) →
    Bel xs j (SetTable.below.go xs j fuel lo hi)
  | 0, lo, hi, h1, h2, h3, h4, h5 => by
    obtain rfl : lo = hi := Nat.le_antisymm h1 (Nat.sub_eq_zero_iff_le.mp (Nat.le_zero.mp h3))
    exact ⟨h2, h4, h5⟩
  | fuel + 1, lo, hi, h1, h2, h3, h4, h5 => by
    show Bel xs j (if lo < hi then (if xs.getD ((lo + hi) / 2) j < j then SetTable.below.go xs j fuel ((lo + hi) / 2 + 1) hi else SetTable.below.go xs j fuel lo ((lo + hi) / 2)) else lo)
    by_cases hlt : lo < hi
    · rw [if_pos hlt]
      have hm : lo ≤ (lo + hi) / 2 ∧ (lo + hi) / 2 < hi := mid_lt hlt
      generalize (lo + hi) / 2 = m at hm ⊢
      have hms := Nat.lt_of_lt_of_le hm.2 h2
      have e : xs.getD m j = xs.getD m 0 := by simp [Array.getD, hms]
      rw [e]
      by_cases hc : xs.getD m 0 < j
      · rw [if_pos hc]
        refine below_go h fuel _ _ hm.2 h2 (mid_up h3 hm).1 (fun i hi' => ?_) h5
        rcases Nat.lt_or_eq_of_le (Nat.le_of_lt_succ hi') with q | rfl
        · exact Nat.lt_trans (h.get q hms) hc
        · exact hc
      · rw [if_neg hc]
        refine below_go h fuel _ _ hm.1 (Nat.le_of_lt hms) (mid_up h3 hm).2 h4 (fun i hi' hi2 => ?_)
        rcases Nat.lt_or_eq_of_le hi' with q | rfl
        · exact Nat.le_trans (Nat.not_lt.mp hc) (Nat.le_of_lt (h.get q hi2))
        · exact Nat.not_lt.mp hc
    · rw [if_neg hlt]
      obtain rfl : lo = hi := Nat.le_antisymm h1 (Nat.not_lt.mp hlt)
      exact ⟨h2, h4, h5⟩
theorem below_is {xs : Array Nat} (h : Rises xs) (j : Nat) : SetTable.below xs j ≤ xs.size ∧ (∀ i, i < SetTable.below xs j → xs.getD i 0 < j) ∧ (∀ i, SetTable.below xs j ≤ i → i < xs.size → j ≤ xs.getD i 0) := by
  obtain ⟨a, b, c⟩ := below_go (j := j) h xs.size 0 xs.size (Nat.zero_le _) (Nat.le_refl _) (Nat.le_refl _) (fun i hi => absurd hi (Nat.not_lt_zero _)) (fun i h1 h2 => absurd h2 (Nat.not_lt.mpr h1))
  exact ⟨a, b, c⟩
theorem below_next {xs : Array Nat} (h : Rises xs) {i : Nat} (hi : i < xs.size) : SetTable.below xs (xs.getD i 0 + 1) = i + 1 := by
  obtain ⟨h1, h2, h3⟩ := below_is h (xs.getD i 0 + 1)
  generalize SetTable.below xs (xs.getD i 0 + 1) = b at *
  by_cases hb : b ≤ i
  · have := h3 i hb hi; omega
  · by_cases hb2 : b = i + 1
    · exact hb2
    · have := h2 (i + 1) (by omega)
      have h9 : i + 1 < xs.size := by omega
      have := h.get (by omega : i < i + 1) h9
      omega
theorem below_zero {xs : Array Nat} (h : Rises xs) : SetTable.below xs 0 = 0 := by
  obtain ⟨h1, h2, h3⟩ := below_is h 0
  generalize SetTable.below xs 0 = b at *
  by_cases hb : b = 0
  · exact hb
  · exact absurd (h2 0 (by (first | (law_clear; lia) | omega))) (Nat.not_lt_zero _)
theorem rises_insert {xs : Array Nat} (h : Rises xs) {j : Nat} (hn : xs[SetTable.below xs j]? ≠ some j) : Rises (SetTable.insertAt xs (SetTable.below xs j) j) := by
  obtain ⟨h1, h2, h3⟩ := below_is h j
  unfold Rises
  rw [SetTable.toList_insertAt]
  generalize SetTable.below xs j = p at *
  have hp : xs.toList.take p ++ xs.toList.drop p = xs.toList := List.take_append_drop p _
  have hw : (xs.toList.take p ++ xs.toList.drop p).Pairwise (· < ·) := hp.symm ▸ h
  have hlow : ∀ x ∈ xs.toList.take p, x < j := by
    intro x hx
    obtain ⟨i, hi, rfl⟩ := List.getElem_of_mem hx
    rw [List.length_take] at hi
    have hi2 : i < p := by (first | (law_clear; lia) | omega)
    have hi3 : i < xs.size := by have : xs.toList.length = xs.size := Array.length_toList; (first | (law_clear; lia) | omega)
    have := h2 i hi2
    simpa [Array.getD, hi3] using this
  have hhigh : ∀ x ∈ xs.toList.drop p, j < x := by
    intro x hx
    obtain ⟨i, hi, rfl⟩ := List.getElem_of_mem hx
    rw [List.length_drop] at hi
    have hi3 : p + i < xs.size := by have : xs.toList.length = xs.size := Array.length_toList; (first | (law_clear; lia) | omega)
    have h4 := h3 (p + i) (Nat.le_add_right _ _) hi3
    have e : xs.getD (p + i) 0 = (xs.toList.drop p)[i]'(by rw [List.length_drop]; (first | (law_clear; lia) | omega)) := by simp [Array.getD, hi3]
    rw [e] at h4
    refine Nat.lt_of_le_of_ne h4 fun q => ?_
    by_cases h0 : i = 0
    · subst h0
      apply hn
      have : p < xs.size := by (first | (law_clear; lia) | omega)
      simp at q
      simp [this, q]
    · have h5 := h3 p (Nat.le_refl _) (by (first | (law_clear; lia) | omega))
      have h6 := h.get (by (first | (law_clear; lia) | omega) : p < p + i) hi3
      rw [e] at h6
      (first | (law_clear; lia) | omega)
  rw [List.pairwise_append] at hw ⊢
  refine ⟨hw.1, List.pairwise_cons.mpr ⟨hhigh, hw.2.1⟩, fun a ha b hb => ?_⟩
  rcases List.mem_cons.mp hb with rfl | hb
  · exact hlow a ha
  · exact hw.2.2 a ha b hb

/-- a table of a set out of which nothing was taken -/
structure TabOk (led : Bool) (t : SetTable) : Prop where
  led : t.led = led
  rise : Rises t.place
  dum : t.dummies = #[]
theorem TabOk.standIn {led : Bool} {t : SetTable} (h : TabOk led t) (n : Nat) : TabOk led (t.standIn n) :=
  ⟨h.led, by show (Array.range n).toList.Pairwise _; rw [Array.toList_range]; exact List.pairwise_lt_range, rfl⟩
theorem probe_free {t : SetTable} (hd : t.dummies = #[]) (f : Nat → Int) (h : Int) : ∀ (fuel : Nat) (p : SetTable.Probe), p.dummy = none → ∀ j d, SetTable.probe.go t f h fuel p = some (.empty j d) → d = none ∧ t.slot j = .empty
  | 0, _, _, _, _, e => by unfold SetTable.probe.go at e; cases e
  | fuel + 1, p, hp, j, d, e => by
    unfold SetTable.probe.go at e
    have hadv : (t.advance p).dummy = none := by
      unfold SetTable.advance
      split <;> exact hp
    split at e
    · rename_i hs
      simp only [Option.some.injEq, SetTable.Met.empty.injEq] at e
      exact ⟨e.2 ▸ hp, e.1 ▸ hs⟩
    · rename_i hs
      exfalso
      unfold SetTable.slot at hs
      dsimp only at hs
      split at hs
      · cases hs
      · split at hs
        · rename_i hq
          rw [hd] at hq
          simp [SetTable.has] at hq
        · cases hs
    · split at e
      · cases e
      · exact probe_free hd f h fuel _ hadv j d e
theorem TabOk.put {led : Bool} {t : SetTable} (h : TabOk led t) {j : Nat} (hs : t.slot j = .empty) : TabOk led (t.put j).1 := by
  refine ⟨h.led, ?_, ?_⟩
  · show Rises (SetTable.insertAt t.place (SetTable.below t.place j) j)
    refine rises_insert h.rise fun q => ?_
    unfold SetTable.slot at hs
    dsimp only at hs
    rw [if_pos (by rw [q]; exact beq_self_eq_true _)] at hs
    cases hs
  · show (if SetTable.has t.dummies j = true then _ else t.dummies) = #[]
    rw [if_neg (by rw [h.dum]; simp [SetTable.has])]
    exact h.dum
theorem layNew_ok {led : Bool} {t : SetTable} (h : TabOk led t) (es : Array (Int × Value)) (hh : Int) (x : Value) : TabOk led (layNew t es hh x).2.1 := by
  unfold layNew
  split
  · rename_i slot wd e
    unfold SetTable.freeSlot at e
    split at e
    · rename_i j d e2
      obtain ⟨rfl, hs⟩ := probe_free h.dum _ _ _ _ rfl j d e2
      simp only [Option.some.injEq, Prod.mk.injEq] at e
      obtain ⟨rfl, rfl⟩ := e
      dsimp only
      unfold SetTable.orStandIn
      split
      · exact h.put hs
      · exact (h.put hs).standIn _
    · cases e
  · exact h.standIn _
theorem laid_ok {mask finger moves : Nat} {led plain : Bool} {hashes : Array Int} {t : SetTable} {o : Array Nat} (e : SetTable.laid mask finger moves led plain hashes = some (t, o)) : TabOk led t := by
  unfold SetTable.laid at e
  cases hq : SetTable.layClean mask hashes with
  | none => rw [hq] at e; cases e
  | some owner =>
    rw [hq] at e
    simp only [Option.bind_eq_bind, Option.bind_some, pure, Option.some.injEq, Prod.mk.injEq] at e
    rw [← e.1]
    refine ⟨rfl, ?_, rfl⟩
    show ((((List.range (mask + 1)).filterMap fun j => (owner.getD j none).map (j, ·)).map (·.1)).toArray).toList.Pairwise (· < ·)
    have sub : ((List.range (mask + 1)).filterMap fun j => (owner.getD j none).map (j, ·)).map (·.1) |>.Sublist (List.range (mask + 1)) := by
      generalize List.range (mask + 1) = l
      induction l with
      | nil => simp
      | cons a l ih =>
        rw [List.filterMap_cons]
        cases owner.getD a none with
        | none => exact ih.cons _
        | some k => exact ih.cons_cons _
    exact List.pairwise_lt_range.sublist sub
theorem relayAll_ok {led : Bool} {t : SetTable} (h : TabOk led t) (es : Array (Int × Value)) (wanted : Nat) : TabOk led (relayAll t es wanted).2.1 := by
  unfold relayAll
  split
  · rename_i t' order e
    have := laid_ok e
    rw [h.led] at this
    dsimp only
    split
    · exact this
    · exact h.standIn _
  · exact h.standIn _
end
section
open PySem PySem.W PyProof.Rows PySem.Calls
set_option Elab.async false
noncomputable def it : Nat → Nat → Nat
  | 0, y => y
  | n + 1, y => it n (5 * y + 1)
theorem it_add : ∀ (m n y : Nat), it (m + n) y = it n (it m y)
  | 0, n, y => by rw [Nat.zero_add]; rfl
  | m + 1, n, y => by
    rw [Nat.succ_add]
    exact it_add m n (5 * y + 1)
theorem it_pow : ∀ k : Nat, ∃ u v, v % 2 = 1 ∧ ∀ y, it (2 ^ k) y = y + 2 ^ k * (4 * u * y + v)
  | 0 => ⟨1, 1, rfl, fun y => by show 5 * y + 1 = _; (first | (law_clear; lia) | omega)⟩
  | k + 1 => by
    obtain ⟨u, v, hv, h⟩ := it_pow k
    refine ⟨u + 2 * u * u * 2 ^ k, v * (1 + 2 * (u * 2 ^ k)), ?_, fun y => ?_⟩
    · rw [Nat.mul_mod, hv, Nat.one_mul, Nat.mod_mod, Nat.add_mul_mod_self_left]
    · have e : 2 ^ (k + 1) = 2 ^ k + 2 ^ k := by rw [Nat.pow_succ, Nat.mul_two]
      rw [e, it_add, h, h]
      generalize 2 ^ k = P
      clear h hv e
      grind

theorem half_flip {P y j w : Nat} (hP : 0 < P) (e : y % P = j % P) (hw : w % 2 = 1) (hc : ¬ y % (P * 2) = j % (P * 2)) : (y + P * w) % (P * 2) = j % (P * 2) := by
  rw [Nat.mod_mul, Nat.mod_mul, e] at hc
  rw [Nat.mod_mul, Nat.mod_mul, Nat.add_mul_mod_self_left, e, Nat.add_mul_div_left _ _ hP]
  have hne : y / P % 2 ≠ j / P % 2 := fun q => hc (by rw [q])
  have two : ∀ x, x < 2 → ∀ y, y < 2 → x ≠ y → (x + 1) % 2 = y := by decide
  have : (y / P + w) % 2 = j / P % 2 := by
    rw [Nat.add_mod, hw]
    exact two _ (Nat.mod_lt _ Nat.two_pos) _ (Nat.mod_lt _ Nat.two_pos) hne
  rw [this]
theorem it_all : ∀ (k x j : Nat), ∃ n, n < 2 ^ k ∧ it n x % 2 ^ k = j % 2 ^ k
  | 0, x, j => ⟨0, by decide, by rw [Nat.pow_zero, Nat.mod_one, Nat.mod_one]⟩
  | k + 1, x, j => by
    obtain ⟨n, hn, e⟩ := it_all k x j
    have hp : 0 < 2 ^ k := Nat.two_pow_pos k
    by_cases hc : it n x % 2 ^ (k + 1) = j % 2 ^ (k + 1)
    · exact ⟨n, Nat.lt_of_lt_of_le hn (Nat.pow_le_pow_right (by decide) (Nat.le_succ k)), hc⟩
    · obtain ⟨u, v, hv, h⟩ := it_pow k
      refine ⟨n + 2 ^ k, by rw [Nat.pow_succ, Nat.mul_two]; exact Nat.add_lt_add_right hn _, ?_⟩
      rw [it_add, h]
      rw [Nat.pow_succ] at hc ⊢
      refine half_flip hp e ?_ hc
      have e4 : 4 * u * it n x + v = v + 2 * (2 * u * it n x) := by
        rw [Nat.add_comm, ← Nat.mul_assoc, ← Nat.mul_assoc]
      rw [e4, Nat.add_mul_mod_self_left]
      exact hv

noncomputable def lp (mask : Nat) : Nat → Nat → Nat → Nat × Nat
  | 0, i, p => (i, p)
  | n + 1, i, p => lp mask n (SetTable.leap mask i p).1 (SetTable.leap mask i p).2
theorem lp_add (mask : Nat) : ∀ (m n i p : Nat), lp mask (m + n) i p = lp mask n (lp mask m i p).1 (lp mask m i p).2
  | 0, n, i, p => by rw [Nat.zero_add]; rfl
  | m + 1, n, i, p => by
    rw [Nat.succ_add]
    exact lp_add mask m n _ _
theorem leap_le (mask i p : Nat) : (SetTable.leap mask i p).1 ≤ mask := Nat.le_of_lt_succ (Nat.mod_lt _ (Nat.succ_pos _))
theorem lp_le (mask : Nat) : ∀ (n i p : Nat), i ≤ mask → (lp mask n i p).1 ≤ mask
  | 0, _, _, h => h
  | n + 1, i, p, _ => lp_le mask n _ _ (leap_le mask i p)
theorem lp_snd (mask : Nat) : ∀ (n i p : Nat), (lp mask n i p).2 = p / 32 ^ n
  | 0, _, p => by show p = p / 1; rw [Nat.div_one]
  | n + 1, i, p => by
    show (lp mask n _ _).2 = _
    rw [lp_snd mask n]
    show p / 32 / 32 ^ n = _
    rw [Nat.div_div_eq_div_mul, Nat.pow_succ, Nat.mul_comm]
theorem lp_it (mask : Nat) : ∀ (n i : Nat), i ≤ mask → (lp mask n i 0).1 = it n i % (mask + 1)
  | 0, i, h => (Nat.mod_eq_of_lt (Nat.lt_succ_of_le h)).symm
  | n + 1, i, h => by
    show (lp mask n ((i * 5 + 1 + 0 / 32) % (mask + 1)) (0 / 32)).1 = it n (5 * i + 1) % (mask + 1)
    rw [Nat.zero_div, lp_it mask n _ (Nat.le_of_lt_succ (Nat.mod_lt _ (Nat.succ_pos _)))]
    have gen : ∀ n a b, a % (mask + 1) = b % (mask + 1) → it n a % (mask + 1) = it n b % (mask + 1) := by
      intro n
      induction n with
      | zero => intro a b e; exact e
      | succ n ih =>
        intro a b e
        refine ih _ _ ?_
        rw [Nat.add_mod, Nat.mul_mod, e, ← Nat.mul_mod, ← Nat.add_mod]
    refine gen n _ _ ?_
    rw [Nat.mod_mod, Nat.mul_comm i 5, Nat.add_zero]

theorem free_none {mask : Nat} {owner : Array (Option Nat)} : ∀ (fuel i p : Nat), i ≤ mask → SetTable.layClean.free mask owner fuel i p = none → ∀ n, n < fuel → (owner.getD (lp mask n i p).1 (some 0)).isNone = false
  | 0, _, _, _, _, n, hn => absurd hn (Nat.not_lt_zero _)
  | fuel + 1, i, p, hi, e, n, hn => by
    unfold SetTable.layClean.free at e
    split at e
    · cases e
    · rename_i hf
      cases n with
      | zero =>
        have h0 := List.find?_eq_none.mp hf 0 (List.mem_range.mpr (by unfold SetTable.runEnd; split <;> (first | (law_clear; lia) | omega)))
        rw [Nat.add_zero] at h0
        exact Bool.eq_false_iff.mpr h0
      | succ n => exact free_none fuel _ _ (leap_le mask i p) e n (Nat.lt_of_succ_lt_succ hn)
theorem free_some {mask : Nat} {owner : Array (Option Nat)} : ∀ (fuel i p : Nat), i ≤ mask → ∀ j, SetTable.layClean.free mask owner fuel i p = some j → j ≤ mask ∧ (owner.getD j (some 0)).isNone = true
  | 0, _, _, _, _, e => by unfold SetTable.layClean.free at e; cases e
  | fuel + 1, i, p, hi, j, e => by
    unfold SetTable.layClean.free at e
    split at e
    · rename_i k hf
      cases e
      have h1 := List.find?_some hf
      have h2 := List.mem_of_find?_eq_some hf
      rw [List.mem_range] at h2
      have h3 : SetTable.runEnd mask i ≤ mask := by unfold SetTable.runEnd; split <;> omega
      exact ⟨by omega, h1⟩
    · exact free_some fuel _ _ (leap_le mask i p) j e
theorem free_ok {mask k : Nat} {owner : Array (Option Nat)} (hM : mask + 1 = 2 ^ k) {j0 : Nat} (hj : j0 ≤ mask) (h0 : (owner.getD j0 (some 0)).isNone = true) {i p : Nat} (hi : i ≤ mask) (hp : p < 2 ^ 64) :
    ∃ j, SetTable.layClean.free mask owner (SetTable.turns mask) i p = some j ∧ j ≤ mask ∧ (owner.getD j (some 0)).isNone = true := by
  cases e : SetTable.layClean.free mask owner (SetTable.turns mask) i p with
  | some j => exact ⟨j, rfl, free_some _ _ _ hi j e⟩
  | none =>
    exfalso
    have hp13 : (lp mask 13 i p).2 = 0 := by
      rw [lp_snd]
      exact Nat.div_eq_of_lt (Nat.lt_trans hp (by decide))
    have hi13 := lp_le mask 13 i p hi
    obtain ⟨n, hn, hq⟩ := it_all k (lp mask 13 i p).1 j0
    rw [← hM] at hn hq
    have h1 := free_none _ _ _ hi e (13 + n) (by unfold SetTable.turns; (first | (law_clear; lia) | omega))
    rw [lp_add, hp13, lp_it mask n _ hi13, hq, Nat.mod_eq_of_lt (Nat.lt_succ_of_le hj), h0] at h1
    cases h1
end
section
open PySem PySem.W PyProof.Rows PySem.Calls
set_option Elab.async false
theorem fm_set {α : Type} : ∀ (l : List (Option α)) (j : Nat) (k : α), l[j]? = some none → List.Perm ((l.set j (some k)).filterMap id) (k :: l.filterMap id)
  | [], _, _, h => by simp at h
  | a :: l, 0, k, h => by
    simp only [List.getElem?_cons_zero, Option.some.injEq] at h
    subst h
    simp
  | a :: l, j + 1, k, h => by
    simp only [List.getElem?_cons_succ] at h
    have ih := fm_set l j k h
    cases a with
    | none => simpa using ih
    | some b =>
      simp only [List.set_cons_succ, List.filterMap_cons, id_eq]
      exact (ih.cons b).trans (List.Perm.swap k b _)
theorem fm_free {α : Type} : ∀ (l : List (Option α)), (l.filterMap id).length < l.length → ∃ j : Nat, l[j]? = some (none : Option α)
  | [], h => by simp at h
  | none :: l, _ => ⟨0, rfl⟩
  | some a :: l, h => by
    simp only [List.filterMap_cons, id_eq, List.length_cons] at h
    obtain ⟨j, hj⟩ := fm_free l (by (first | (law_clear; lia) | omega))
    exact ⟨j + 1, by simpa using hj⟩
noncomputable def layStep (mask : Nat) (acc : Option (Array (Option Nat) × Nat)) (h : Int) : Option (Array (Option Nat) × Nat) := do
  let (owner, k) ← acc
  let j ← SetTable.layClean.free mask owner (SetTable.turns mask) (SetTable.bits h % (mask + 1)) (SetTable.bits h)
  pure (owner.setIfInBounds j (some k), k + 1)
theorem bits_lt (h : Int) : SetTable.bits h < 2 ^ 64 := by
  unfold SetTable.bits
  (first | (law_clear; lia) | omega)
theorem lay_fold {mask K : Nat} (hM : mask + 1 = 2 ^ K) : ∀ (hs : List Int) (owner : Array (Option Nat)) (k : Nat), owner.size = mask + 1 → (owner.toList.filterMap id).Perm (List.range k) → k + hs.length ≤ mask →
    ∃ o', hs.foldl (layStep mask) (some (owner, k)) = some (o', k + hs.length) ∧ o'.size = mask + 1 ∧ (o'.toList.filterMap id).Perm (List.range (k + hs.length))
  | [], owner, k, h1, h2, _ => ⟨owner, rfl, h1, h2⟩
  | h :: hs, owner, k, h1, h2, h3 => by
    rw [List.length_cons] at h3
    have hl := h2.length_eq
    rw [List.length_range] at hl
    obtain ⟨j0, hj0⟩ := fm_free owner.toList (by rw [hl, Array.length_toList, h1]; (first | (law_clear; lia) | omega))
    have hj0lt : j0 < owner.size := by
      have := (List.getElem?_eq_some_iff.mp hj0).1
      simpa using this
    have hj00 : (owner.getD j0 (some 0)).isNone = true := by
      have : owner[j0]? = some none := by rw [← Array.getElem?_toList]; exact hj0
      simp [Array.getD, hj0lt, (Array.getElem?_eq_some_iff.mp this).2]
    obtain ⟨j, e, hj, hn⟩ := free_ok (owner := owner) hM (by (first | (law_clear; lia) | omega) : j0 ≤ mask) hj00 (i := SetTable.bits h % (mask + 1)) (Nat.le_of_lt_succ (Nat.mod_lt _ (Nat.succ_pos _))) (bits_lt h)
    have hjlt : j < owner.size := by (first | (law_clear; lia) | omega)
    have hjn : owner.toList[j]? = some none := by
      have : owner[j] = none := by simpa [Array.getD, hjlt] using hn
      simp [hjlt, this]
    have hp := fm_set owner.toList j k hjn
    obtain ⟨o', r1, r2, r3⟩ := lay_fold hM hs (owner.setIfInBounds j (some k)) (k + 1) (by simpa using h1) (by
      rw [Array.toList_setIfInBounds]
      refine hp.trans ((h2.cons k).trans ?_)
      rw [List.range_succ]
      exact (List.perm_append_singleton k _).symm) (by (first | (law_clear; lia) | omega))
    have e2 : k + 1 + hs.length = k + (h :: hs).length := by rw [List.length_cons]; (first | (law_clear; lia) | omega)
    rw [e2] at r1 r3
    refine ⟨o', ?_, r2, r3⟩
    rw [List.foldl_cons]
    have : layStep mask (some (owner, k)) h = some (owner.setIfInBounds j (some k), k + 1) := by
      unfold layStep
      simp only [Option.bind_eq_bind, Option.bind_some, e, pure]
    rw [this]
    exact r1
theorem layClean_some {mask K : Nat} (hM : mask + 1 = 2 ^ K) (hashes : Array Int) (hn : hashes.size ≤ mask) : ∃ o, SetTable.layClean mask hashes = some o ∧ o.size = mask + 1 ∧ (o.toList.filterMap id).Perm (List.range hashes.size) := by
  obtain ⟨o, e, h1, h2⟩ := lay_fold hM hashes.toList (Array.replicate (mask + 1) none) 0 (by simp) (by simp) (by simpa using hn)
  simp only [Nat.zero_add, Array.length_toList] at e h2
  refine ⟨o, ?_, h1, h2⟩
  unfold SetTable.layClean
  rw [← Array.foldl_toList]
  show Option.map (·.1) (hashes.toList.foldl (layStep mask) (some (Array.replicate (mask + 1) none, 0))) = some o
  rw [e]
  rfl
theorem laid_some {mask K finger moves : Nat} {led plain : Bool} (hM : mask + 1 = 2 ^ K) (hashes : Array Int) (hn : hashes.size ≤ mask) :
    ∃ t o, SetTable.laid mask finger moves led plain hashes = some (t, o) ∧ TabOk led t ∧ t.fits hashes.size = true ∧ o.toList.Perm (List.range hashes.size) := by
  obtain ⟨ow, e, h1, h2⟩ := layClean_some hM hashes hn
  have e2 : SetTable.laid mask finger moves led plain hashes = some ({ mask, place := (((List.range (mask + 1)).filterMap fun j => (ow.getD j none).map (j, ·)).map (·.1)).toArray, dummies := #[], finger, led, moves, plain }, (((List.range (mask + 1)).filterMap fun j => (ow.getD j none).map (j, ·)).map (·.2)).toArray) := by
    unfold SetTable.laid
    rw [e]
    exact rfl
  have e3 : ((List.range (mask + 1)).filterMap fun j => (ow.getD j none).map (j, ·)).map (·.2) = ow.toList.filterMap id := by
    rw [← h1]
    rw [List.map_filterMap]
    have : ow.toList = (List.range ow.size).map (fun j => ow.getD j none) := by
      apply List.ext_getElem
      · simp
      · intro i a b
        have : i < ow.size := by simpa using a
        simp [Array.getD, this]
    conv => rhs; rw [this]
    rw [List.filterMap_map]
    congr 1
    funext j
    simp only [Function.comp, id_eq, Option.map_map]
    cases ow.getD j none <;> rfl
  refine ⟨_, _, e2, laid_ok e2, ?_, ?_⟩
  · have hl := h2.length_eq
    rw [← e3, List.length_map, List.length_range] at hl
    simp only [SetTable.fits, SetTable.fill, List.size_toArray, List.length_map, hl, Array.size_empty, Nat.add_zero, beq_self_eq_true, Bool.true_and, decide_eq_true_eq]
    exact hn
  · dsimp only
    show (((List.range (mask + 1)).filterMap fun j => (ow.getD j none).map (j, ·)).map (·.2)).Perm _
    rw [e3]
    exact h2
theorem sizeAbove_go (n : Nat) : ∀ (fuel K : Nat), n < 2 ^ K * 2 ^ fuel → ∃ K', SetTable.sizeAbove.go n fuel (2 ^ K) = 2 ^ K' ∧ n < 2 ^ K' ∧ (2 ^ K' ≤ 2 ^ K ∨ 2 ^ K' ≤ 2 * n)
  | 0, K, h => ⟨K, rfl, by simpa using h, .inl (Nat.le_refl _)⟩
  | fuel + 1, K, h => by
    unfold SetTable.sizeAbove.go
    by_cases hc : 2 ^ K ≤ n
    · rw [if_pos hc, ← Nat.pow_succ]
      obtain ⟨K', e, h1, h2⟩ := sizeAbove_go n fuel (K + 1) (by rw [Nat.pow_succ, Nat.mul_assoc, ← Nat.pow_succ']; exact h)
      refine ⟨K', e, h1, .inr ?_⟩
      rw [Nat.pow_succ] at h2
      (first | (law_clear; lia) | omega)
    · rw [if_neg hc]
      exact ⟨K, rfl, by (first | (law_clear; lia) | omega), .inl (Nat.le_refl _)⟩
theorem sizeAbove_is (n : Nat) (h : n < 2 ^ 60) : ∃ K, SetTable.sizeAbove n = 2 ^ K ∧ n < 2 ^ K ∧ 2 ^ K ≤ 2 * n + 8 := by
  obtain ⟨K, e, h1, h2⟩ := sizeAbove_go n 64 3 (Nat.lt_trans h (by decide))
  exact ⟨K, e, h1, by (first | (law_clear; lia) | omega)⟩
end
section
open PySem PySem.W PyProof.Rows PySem.Calls
set_option Elab.async false
noncomputable abbrev EntOk (e : Int × Value) : Prop := ∃ k t, e = (hashInt k, .int k t)
noncomputable def keyOf (e : Int × Value) : Int := match e.2 with | .int k _ => k | _ => 0
/-- a set of ints whose elements stand in this order -/
noncomputable def SetIs (led : Bool) (h : Heap) (a : Addr) (ks : List Int) : Prop :=
  ∃ o es ep t, h.get? a = some o ∧ o.ExactSet ∧ o.data = .set es ep t ∧ (∀ e ∈ es.toList, EntOk e) ∧ es.toList.map keyOf = ks ∧ ks.Nodup ∧ es.size < scanBound ∧ t.fits es.size = true ∧ TabOk led t
noncomputable def addK (k : Int) (ks : List Int) : List Int := if k ∈ ks then ks else k :: ks
noncomputable abbrev ledOf (w : World) : Bool := !(w.params.followText "set-order")

theorem SetIs.at' {led : Bool} {h h' : Heap} {a : Addr} {ks : List Int} (x : SetIs led h a ks) (e : ∀ o, h.get? a = some o → h'.get? a = some o) : SetIs led h' a ks := by
  obtain ⟨o, es, ep, t, ho, r⟩ := x
  exact ⟨o, es, ep, t, e o ho, r⟩
theorem EntOk.is {prog : Program} {w : World} {e : Int × Value} (h : EntOk e) : (∃ k, (intKind prog w).is k e.2 = true ∧ e.1 = (intKind prog w).hash k) ∧ e.2.scannable = true := by
  obtain ⟨k, t, rfl⟩ := h
  exact ⟨⟨k, by show Value.isInt k (.int k t) = true; simp [Value.isInt], rfl⟩, rfl⟩
theorem ents_of {prog : Program} {w : World} {l : List (Int × Value)} (h : ∀ e ∈ l, EntOk e) : ElemsOf (intKind prog w) l := fun e he => (h e he).is
theorem find_key {prog : Program} {w : World} {l : List (Int × Value)} (h : ∀ e ∈ l, EntOk e) (k : Int) : (l.findIdx? fun e => (intKind prog w).is k e.2) = none ↔ k ∉ l.map keyOf := by
  rw [List.findIdx?_eq_none_iff]
  constructor
  · intro hn hm
    obtain ⟨e, he, rfl⟩ := List.mem_map.mp hm
    obtain ⟨k, t, rfl⟩ := h e he
    have := hn _ he
    change Value.isInt k (.int k t) = false at this
    simp [Value.isInt] at this
  · intro hm e he
    obtain ⟨k', t, rfl⟩ := h e he
    show Value.isInt k (.int k' t) = false
    cases q : Value.isInt k (.int k' t) with
    | false => rfl
    | true =>
      exfalso
      apply hm
      have : k' = k := by simpa [Value.isInt] using q
      subst this
      exact List.mem_map.mpr ⟨_, he, rfl⟩
section
variable {prog : Program} {w : World} {A : Around} {E : Value → Shared → Prop} {s : Shared} {led : Bool}

theorem SetIs.store {h : Heap} {a : Addr} {o : Obj} {es es' : Array (Int × Value)} {ep : Nat} {t t' : SetTable} (ho : h.get? a = some o) (hex : o.ExactSet) (hd : o.data = .set es ep t)
    (hel : ∀ e ∈ es'.toList, EntOk e) (hn : (es'.toList.map keyOf).Nodup) (hb : es'.size < scanBound) (hf : t'.fits es'.size = true) (hT : TabOk led t') :
    (h.update a (Obj.putSet es' t')).get? a = some { o with data := .set es' (ep + 1) t' } ∧ SetIs led (h.update a (Obj.putSet es' t')) a (es'.toList.map keyOf) := by
  have hg : (h.update a (Obj.putSet es' t')).get? a = some { o with data := .set es' (ep + 1) t' } := by
    have := Heap.get?_update_self (Obj.putSet es' t') ho (by rw [putSet_of es' t' hd]; rfl)
    rw [putSet_of es' t' hd] at this; exact this
  exact ⟨hg, _, es', ep + 1, t', hg, hex, rfl, hel, rfl, hn, hb, hf, hT⟩

theorem newSet_my {Q : Value → Shared → Prop}
    (h : SetIs (ledOf w) (s.heap.push { cls := .type "set", dict := none, data := .set #[] 0 (.fresh 0 0 (ledOf w)) }) s.heap.objs.size [] →
      Q (.ref s.heap.objs.size) { s with heap := s.heap.push { cls := .type "set", dict := none, data := .set #[] 0 (.fresh 0 0 (ledOf w)) } }) :
    wpAny (model prog w) A (newSet (.type "set")) Q E s := by
  unfold newSet setsByText
  refine wpAny_bind (wpAny_bind (wpAny_askSetting (wpAny_pure ?_)))
  dsimp only
  simp only [newObj]
  exact wpAny_bind (wpAny_alloc (wpAny_pure (h ⟨_, #[], 0, _, Heap.get?_push_size _ rfl, ⟨rfl, rfl, rfl⟩, rfl, fun e he => by simp at he, rfl, .nil, by decide, by rfl, ⟨rfl, .nil, rfl⟩⟩)))

theorem addHashed_my {a : Addr} {ks : List Int} {k : Int} {tk : Tok} {Q : Bool → Shared → Prop} (hS : SetIs led s.heap a ks) (hroom : ks.length + 1 < scanBound)
    (h : ∀ h' ks' b, Heap.SameBut a s.heap h' → SetIs led h' a ks' → ks'.Perm (addK k ks) → Q b { s with heap := h' }) :
    wpAny (model prog w) A (setAddHashed a (.int k tk) (hashInt k)) Q E s := by
  obtain ⟨o, es, ep, t, ho, hex, hd, hel, rfl, hnd, hb, hf, hT⟩ := hS
  rw [List.length_map, Array.length_toList] at hroom
  have hel' := ents_of (prog := prog) (w := w) hel
  have hkey : (intKind prog w).is k (.int k tk) = true := by show Value.isInt k (.int k tk) = true; simp [Value.isInt]
  unfold setAddHashed setAddHashedIn
  refine wpAny_holding (wpAny_bind (wpAny_setState_of ho hd hf ?_))
  dsimp only
  rw [byScan_of (knd := intKind prog w) (x := .int k tk) rfl hb hel']
  simp only [↓reduceIte]
  unfold setAddByScan
  refine wpAny_bind ?_
  refine wpAny_bind (wpAny_rule ?_)
  refine wpAny_bind (wpAny_setScan_of (knd := intKind prog w) hkey ho hd hf hel' ?_)
  have hfk := find_key (prog := prog) (w := w) hel k
  cases hr : es.toList.findIdx? (fun e => (intKind prog w).is k e.2) with
  | some j =>
    dsimp only
    have hin : k ∈ es.toList.map keyOf := by
      refine Classical.byContradiction fun q => ?_
      have := hfk.mpr q
      rw [hr] at this
      cases this
    refine wpAny_pure (wpAny_pure ?_)
    exact h s.heap _ _ (Heap.SameBut.refl a s.heap) ⟨o, es, ep, t, ho, hex, hd, hel, rfl, hnd, hb, hf, hT⟩ (by unfold addK; rw [if_pos hin])
  | none =>
    dsimp only
    have hin := hfk.mp hr
    have hgw : ∀ (b : Bool) {s₁ : Shared} {Q' : Unit → Shared → Prop}, Q' () s₁ → wpAny (model prog w) A (match b with | true => rule "set.scan.the-table-gave-way" | false => pure ()) Q' E s₁ :=
      fun b s₁ Q' hq => by cases b <;> first | exact wpAny_pure hq | exact wpAny_rule hq
    have hperm := layNew_perm t es (hashInt k) (.int k tk)
    have hfits := layNew_fits t es (hashInt k) (.int k tk)
    have hT1 := layNew_ok hT es (hashInt k) (.int k tk)
    show wpAny (model prog w) A _ _ E s
    generalize hL : layNew t es (hashInt k) (.int k tk) = L at hperm hfits hT1
    change wpAny (model prog w) A (match layNew t es (hashInt k) (.int k tk) with | (es, t, wasDummy, gave) => _) _ E s
    rw [hL]
    obtain ⟨es1, t1, wasDummy, gave⟩ := L
    dsimp only at hperm hfits hT1 ⊢
    rw [Array.toList_push] at hperm
    have hel1 : ∀ e ∈ es1.toList, EntOk e := fun e he => by
      rcases List.mem_append.mp (hperm.mem_iff.mp he) with q | q
      · exact hel e q
      · rw [List.mem_singleton.mp q]; exact ⟨_, _, rfl⟩
    have hp1 : (es1.toList.map keyOf).Perm (addK k (es.toList.map keyOf)) := by
      have := hperm.map keyOf
      rw [List.map_append] at this
      unfold addK
      rw [if_neg hin]
      exact this.trans (List.perm_append_singleton k _)
    have hnd1 : (es1.toList.map keyOf).Nodup := by
      rw [hp1.nodup_iff]
      unfold addK
      rw [if_neg hin]
      exact List.nodup_cons.mpr ⟨hin, hnd⟩
    have hsz1 : es1.size = es.size + 1 := by rw [← Array.length_toList, hperm.length_eq, List.length_append, Array.length_toList]; rfl
    have hb1 : es1.size < scanBound := by (first | (law_clear; lia) | omega)
    refine wpAny_bind (hgw _ ?_)
    have tail : ∀ t2 : SetTable, t2.fits es1.size = true → TabOk led t2 → wpAny (model prog w) A (do
        storeSet a es1 t2
        if (!wasDummy && t2.tooFull) = true then do
            (match (relayAll t2 es1 (SetTable.grown es1.size)).2.2 with | true => rule "set.scan.the-table-gave-way" | false => pure ())
            storeSet a (relayAll t2 es1 (SetTable.grown es1.size)).1 (relayAll t2 es1 (SetTable.grown es1.size)).2.1
            pure (some true)
          else pure (some true)) (fun r s' => r = some true ∧ Q true s') E s := by
      intro t2 hf2 hT2
      refine wpAny_bind (wpAny_storeSet_of ho hd ?_ (fits_of_scanBound hb1))
      obtain ⟨ho1, hS1⟩ := SetIs.store (led := led) ho hex hd hel1 hnd1 hb1 hf2 hT2
      have hsb1 := Heap.SameBut.update s.heap a (Obj.putSet es1 t2)
      split
      · have hp := relayAll_perm t2 es1 (SetTable.grown es1.size)
        have hfr := relayAll_fits t2 es1 (SetTable.grown es1.size)
        have hTr := relayAll_ok hT2 es1 (SetTable.grown es1.size)
        generalize relayAll t2 es1 (SetTable.grown es1.size) = Rl at hp hfr hTr ⊢
        obtain ⟨es2, t3, gave2⟩ := Rl
        dsimp only at hp hfr hTr ⊢
        have hsz : es2.size = es1.size := by rw [← Array.length_toList, hp.length_eq, Array.length_toList]
        refine wpAny_bind (hgw _ ?_)
        refine wpAny_bind (wpAny_storeSet_of ho1 rfl ?_ (fits_of_scanBound (by (first | (law_clear; lia) | omega))))
        obtain ⟨_, hS2⟩ := SetIs.store (led := led) ho1 hex rfl (fun e he => hel1 e (hp.mem_iff.mp he)) ((hp.map keyOf).nodup_iff.mpr hnd1) (by (first | (law_clear; lia) | omega)) hfr hTr
        exact wpAny_pure ⟨rfl, h _ _ _ (hsb1.trans (Heap.SameBut.update _ a _)) hS2 ((hp.map keyOf).trans hp1)⟩
      · exact wpAny_pure ⟨rfl, h _ _ _ hsb1 hS1 hp1⟩
    have fin : ∀ (r : Option Bool) (s' : Shared), (r = some true ∧ Q true s') → wpAny (model prog w) A (match r with | some added => pure added | none => setAddHashedIn a (.int k tk) (hashInt k) 99999) Q E s' := by
      rintro r s' ⟨rfl, hq⟩
      exact wpAny_pure hq
    split
    · refine wpAny_bind ?_
      rw [hashByValue_scannable 8 (x := .int k tk) rfl]
      refine wpAny_pure ?_
      refine wpAny_mono (tail _ ?_ ?_) fin fun _ _ e => e
      · split
        · exact hfits
        · exact SetTable.fits_plain_off hfits
      · split
        · exact hT1
        · exact ⟨hT1.led, hT1.rise, hT1.dum⟩
    · refine wpAny_bind (wpAny_pure ?_)
      simp only [↓reduceIte]
      exact wpAny_mono (tail _ hfits hT1) fin fun _ _ e => e

theorem setAdd_my {a : Addr} {ks : List Int} {k : Int} {tk : Tok} {Q : Bool → Shared → Prop} (hS : SetIs led s.heap a ks) (hroom : ks.length + 1 < scanBound)
    (h : ∀ h' ks' b, Heap.SameBut a s.heap h' → SetIs led h' a ks' → ks'.Perm (addK k ks) → Q b { s with heap := h', toks := s.toks + 1 }) :
    wpAny (model prog w) A (setAdd a (.int k tk)) Q E s := by
  unfold setAdd
  refine wpAny_holding (wpAny_bind ((intKind prog w).pyHash (k := k) (by show Value.isInt k (.int k tk) = true; simp [Value.isInt]) ?_))
  exact addHashed_my (s := { s with toks := s.toks + 1 }) hS hroom h

theorem relay_my {a : Addr} {ks : List Int} {wanted : Nat} {Q : Unit → Shared → Prop} (hS : SetIs led s.heap a ks) (h1 : ks.length ≤ wanted) (h2 : wanted ≤ 100000)
    (h : ∀ h' ks', Heap.SameBut a s.heap h' → SetIs led h' a ks' → ks'.Perm ks → Q () { s with heap := h' }) :
    wpAny (model prog w) A (setRelay a wanted) Q E s := by
  obtain ⟨o, es, ep, t, ho, hex, hd, hel, rfl, hnd, hb, hf, hT⟩ := hS
  rw [List.length_map, Array.length_toList] at h1
  unfold setRelay
  refine wpAny_bind (wpAny_setState_of ho hd hf ?_)
  dsimp only
  obtain ⟨K, e, g1, g2⟩ := sizeAbove_is wanted (by (first | (law_clear; lia) | omega))
  have hsl : SetTable.sizeAbove wanted ≤ sizeLine := by rw [e, sizeLine_eq]; (first | (law_clear; lia) | omega)
  rw [if_neg (Nat.not_lt.mpr hsl)]
  obtain ⟨t', od, el, hT', hf', hp⟩ := laid_some (mask := SetTable.sizeAbove wanted - 1) (K := K) (finger := t.finger) (moves := t.movedTo (SetTable.sizeAbove wanted - 1)) (led := t.led) (plain := t.plain) (by (first | (law_clear; lia) | omega)) (es.map (·.1)) (by rw [Array.size_map]; (first | (law_clear; lia) | omega))
  have er : t.relaid (es.map (·.1)) wanted = some (t', od) := el
  rw [er]
  rw [Array.size_map] at hf' hp
  have hpe : (od.filterMap (es[·]?)).toList.Perm es.toList := by
    rw [Array.toList_filterMap]
    exact (hp.filterMap _).trans (by rw [filterMap_getElem?_range])
  have hsz : (od.filterMap (es[·]?)).size = es.size := by rw [← Array.length_toList, hpe.length_eq, Array.length_toList]
  refine wpAny_bind ?_
  show wpAny (model prog w) A (if ((od.filterMap (es[·]?)).size != es.size) = true then _ else pure (od.filterMap (es[·]?), t')) _ E s
  rw [if_neg (by rw [hsz]; simp)]
  refine wpAny_pure ?_
  dsimp only
  refine wpAny_storeSet_of ho hd ?_ (fits_of_scanBound (by (first | (law_clear; lia) | omega)))
  rw [hT.led] at hT'
  obtain ⟨_, hS2⟩ := SetIs.store (led := led) (t' := t') ho hex hd (fun e he => hel e (hpe.mem_iff.mp he)) ((hpe.map keyOf).nodup_iff.mpr hnd) (by (first | (law_clear; lia) | omega)) (by rw [hsz]; exact hf') hT'
  exact h _ _ (Heap.SameBut.update s.heap a _) hS2 (hpe.map keyOf)

theorem roomFor_my {a : Addr} {ks : List Int} {more : Nat} {Q : Unit → Shared → Prop} (hS : SetIs led s.heap a ks) (h2 : ks.length + more ≤ 10000)
    (h : ∀ h' ks', Heap.SameBut a s.heap h' → SetIs led h' a ks' → ks'.Perm ks → Q () { s with heap := h' }) :
    wpAny (model prog w) A (setRoomFor a more) Q E s := by
  obtain ⟨o, es, ep, t, ho, hex, hd, hel, e, hnd, hb, hf, hT⟩ := id hS
  unfold setRoomFor
  refine wpAny_bind (wpAny_setState_of ho hd hf ?_)
  dsimp only
  have hpl : t.place.size = ks.length := by
    simp only [SetTable.fits, Bool.and_eq_true, beq_iff_eq] at hf
    rw [hf.1, ← e, List.length_map, Array.length_toList]
  cases hq : t.roomFor more with
  | none => exact wpAny_pure (h s.heap ks (Heap.SameBut.refl a s.heap) hS .rfl)
  | some wanted =>
    have hw : wanted = (ks.length + more) * 2 := by
      unfold SetTable.roomFor at hq
      split at hq
      · rw [hpl] at hq; exact (Option.some.inj hq).symm
      · cases hq
    exact relay_my hS (by (first | (law_clear; lia) | omega)) (by (first | (law_clear; lia) | omega)) h
end
end
section
open PySem PySem.W PyProof.Rows PySem.Calls
set_option Elab.async false
theorem cons_erase {α : Type} : ∀ (l : List α) (i : Nat) (h : i < l.length), (l[i] :: l.eraseIdx i).Perm l
  | a :: l, 0, _ => .rfl
  | a :: l, i + 1, h => by
    simp only [List.getElem_cons_succ, List.eraseIdx_cons_succ]
    exact (List.Perm.swap a _ _).trans ((cons_erase l i (by simpa using h)).cons a)
theorem pick_go {α : Type} (next : Nat → Nat) : ∀ (fuel k : Nat) (left : List α) (out : Array α), left.length ≤ fuel → (pickOrder.go next fuel k left out).toList.Perm (out.toList ++ left)
  | 0, k, left, out, h => by
    have : left = [] := List.length_eq_zero_iff.mp (Nat.le_zero.mp h)
    subst this
    exact (List.append_nil out.toList).symm ▸ List.Perm.refl _
  | fuel + 1, k, left, out, h => by
    by_cases hl : left = []
    · subst hl; exact (List.append_nil out.toList).symm ▸ List.Perm.refl _
    · have hp : 0 < left.length := List.length_pos_iff.mpr hl
      have hm := Nat.mod_lt (next k) hp
      show (match left[next k % left.length]? with | some x => pickOrder.go next fuel (k + 1) (left.eraseIdx (next k % left.length)) (out.push x) | none => out).toList.Perm _
      rw [List.getElem?_eq_getElem hm]
      dsimp only
      generalize next k % left.length = i at *
      refine (pick_go next fuel (k + 1) (left.eraseIdx i) (out.push left[i]) (by rw [List.length_eraseIdx, if_pos hm]; (first | (law_clear; lia) | omega))).trans ?_
      rw [Array.toList_push, List.append_assoc]
      refine List.Perm.append_left _ ?_
      exact cons_erase left i hm
theorem pick_perm {α : Type} (next : Nat → Nat) (xs : Array α) : (pickOrder next xs).toList.Perm xs.toList := by
  have := pick_go next xs.size 0 xs.toList #[] (by simp)
  simpa [pickOrder] using this
section
variable {prog : Program} {w : World} {A : Around} {E : Value → Shared → Prop} {s : Shared}
theorem forIn_same {α β : Type} {b : β} {f : α → β → Sem (ForInStep β)} {Q : β → Shared → Prop} : ∀ (l : List α), (∀ x ∈ l, ∀ (Q' : ForInStep β → Shared → Prop), Q' (.yield b) s → wpAny (model prog w) A (f x b) Q' E s) → Q b s → wpAny (model prog w) A (forIn l b f) Q E s
  | [], _, h => by rw [List.forIn_nil]; exact wpAny_pure h
  | x :: l, hf, h => by
    rw [List.forIn_cons]
    refine wpAny_bind (hf x (.head _) _ ?_)
    exact forIn_same l (fun y hy => hf y (.tail _ hy)) h
theorem quiet_my {a o : Addr} {led : Bool} {ks kr : List Int} {Q : Bool → Shared → Prop} (h1 : SetIs led s.heap o kr) (h2 : SetIs led s.heap a ks) (h : Q true s) : wpAny (model prog w) A (setsQuiet [o, a]) Q E s := by
  have one : ∀ {b : Addr} {kb : List Int}, SetIs led s.heap b kb → ∀ (f : Int × Value → Option Bool × Unit → Sem (ForInStep (Option Bool × Unit))) (Q' : Option Bool × Unit → Shared → Prop), (∀ k t (Q'' : ForInStep (Option Bool × Unit) → Shared → Prop), Q'' (.yield (none, ())) s → wpAny (model prog w) A (f (hashInt k, .int k t) (none, ())) Q'' E s) → Q' (none, ()) s →
      wpAny (model prog w) A (setEntries b) (fun es s' => wpAny (model prog w) A (forIn es (none, ()) f) Q' E s') E s := by
    intro b kb hb f Q' hf hq
    obtain ⟨o', es, ep, t, ho, hex, hd, hel, _, _, _, hfit, _⟩ := hb
    refine wpAny_setEntries_of ho hd hfit ?_
    rw [← Array.forIn_toList]
    exact forIn_same _ (fun e he Q'' hq'' => by obtain ⟨k, t, rfl⟩ := hel e he; exact hf k t Q'' hq'') hq
  unfold setsQuiet
  refine wpAny_bind ?_
  rw [List.forIn_cons]
  refine wpAny_bind (wpAny_bind (wpAny_mono (one h1 _ _ (fun k t Q'' hq => wpAny_pure hq) ?_) (fun _ _ x => wpAny_bind x) fun _ _ x => x))
  refine wpAny_pure ?_
  dsimp only
  rw [List.forIn_cons]
  refine wpAny_bind (wpAny_bind (wpAny_mono (one h2 _ _ (fun k t Q'' hq => wpAny_pure hq) ?_) (fun _ _ x => wpAny_bind x) fun _ _ x => x))
  refine wpAny_pure ?_
  dsimp only
  rw [List.forIn_nil]
  exact wpAny_pure (wpAny_pure h)

theorem setWalk_my {o : Addr} {kr : List Int} {Q : Array (Int × Value) → Shared → Prop} {oo : Obj} {es : Array (Int × Value)} {ep : Nat} {t : SetTable} (ho : s.heap.get? o = some oo) (hd : oo.data = .set es ep t) (hf : t.fits es.size = true) (hT : TabOk (ledOf w) t)
    (hc : w.params.followText "set-order" = true ∨ t.plain = true ∨ es.size ≤ 1) (h : ∀ xs, xs.toList.Perm es.toList → Q xs s) : wpAny (model prog w) A (setWalk o) Q E s := by
  unfold setWalk
  refine wpAny_bind (wpAny_setState_of ho hd hf ?_)
  dsimp only
  unfold setsByText
  refine wpAny_bind (wpAny_bind (wpAny_askSetting (wpAny_pure ?_)))
  show wpAny (model prog w) A (if w.params.followText "set-order" = true then _ else _) _ _ _
  by_cases hb : w.params.followText "set-order" = true
  · rw [if_pos hb]
    exact wpAny_bind (wpAny_askSetting (wpAny_pure (h _ (pick_perm _ _))))
  · rw [if_neg hb]
    have hled : t.led = true := by rw [hT.led]; simp [ledOf, hb]
    have hdr : (!t.plain && decide (es.size > 1)) = false := by
      rcases hc with q | q | q
      · exact absurd q hb
      · rw [q]; rfl
      · have : decide (es.size > 1) = false := decide_eq_false (by (first | (law_clear; lia) | omega))
        rw [this, Bool.and_false]
    show wpAny (model prog w) A (if (!t.plain && decide (es.size > 1)) = true then _ else _) _ _ _
    rw [hdr, if_neg Bool.false_ne_true]
    refine wpAny_bind ?_
    show wpAny (model prog w) A (if (!t.led && decide (es.size > 1)) = true then _ else _) _ _ _
    rw [hled, Bool.not_true, Bool.false_and, if_neg Bool.false_ne_true]
    exact wpAny_pure (wpAny_pure (h _ .rfl))

theorem unseen_my {o a : Addr} {kr ks : List Int} {Q : Array (Int × Value) → Shared → Prop} {oo : Obj} {es : Array (Int × Value)} {ep : Nat} {t : SetTable} (hoa : o ≠ a) (h1 : SetIs (ledOf w) s.heap o kr) (ho : s.heap.get? o = some oo) (hd : oo.data = .set es ep t) (hf : t.fits es.size = true) (hT : TabOk (ledOf w) t)
    (h2 : SetIs (ledOf w) s.heap a ks) (h : ∀ xs h', xs.toList.Perm es.toList → Heap.SameBut a s.heap h' → SetIs (ledOf w) h' a ks → Q xs { s with heap := h' }) : wpAny (model prog w) A (setWalkUnseen o [a] (some a)) Q E s := by
  unfold setWalkUnseen
  refine wpAny_bind (wpAny_setState_of ho hd hf ?_)
  dsimp only
  unfold setsByText
  refine wpAny_bind (wpAny_bind (wpAny_askSetting (wpAny_pure ?_)))
  show wpAny (model prog w) A (if (w.params.followText "set-order" || (t.led && t.plain) || decide (es.size ≤ 1)) = true then _ else _) _ _ _
  by_cases hc : (w.params.followText "set-order" || (t.led && t.plain) || decide (es.size ≤ 1)) = true
  · rw [if_pos hc]
    simp only [Bool.or_eq_true, Bool.and_eq_true, decide_eq_true_eq] at hc
    refine setWalk_my (kr := kr) ho hd hf hT ?_ fun xs hp => h xs s.heap hp (Heap.SameBut.refl a s.heap) h2
    rcases hc with (q | q) | q
    · exact .inl q
    · exact .inr (.inl q.2)
    · exact .inr (.inr q)
  · rw [if_neg hc]
    refine wpAny_bind (quiet_my h1 h2 ?_)
    rw [Bool.not_true, if_neg Bool.false_ne_true]
    refine wpAny_bind (wpAny_rule ?_)
    obtain ⟨oa, ea, epa, ta, hoa', hexa, hda, hela, eka, hnda, hba, hfa, hTa⟩ := id h2
    refine wpAny_bind (wpAny_setState_of hoa' hda hfa ?_)
    dsimp only
    split
    · refine wpAny_bind (wpAny_storeSet_of hoa' hda ?_ (fits_of_scanBound hba))
      obtain ⟨_, hS2⟩ := SetIs.store (led := ledOf w) (es' := ea) (t' := { ta with led := ta.led && t.led, plain := ta.plain && t.plain }) hoa' hexa hda hela (eka ▸ hnda) hba hfa ⟨by show (ta.led && t.led) = _; rw [hTa.led, hT.led, Bool.and_self], hTa.rise, hTa.dum⟩
      rw [eka] at hS2
      exact wpAny_pure (h es _ .rfl (Heap.SameBut.update s.heap a _) hS2)
    · exact wpAny_bind (wpAny_pure (wpAny_pure (h es s.heap .rfl (Heap.SameBut.refl a s.heap) h2)))
end
end
section
open PySem PySem.W PyProof.Rows PySem.Calls
set_option Elab.async false
section
variable {prog : Program} {w : World} {A : Around} {E : Value → Shared → Prop} {s : Shared}

theorem SetIs.sameBut {led : Bool} {h h' : Heap} {a b : Addr} {ks : List Int} (x : SetIs led h a ks) (hs : Heap.SameBut b h h') (hab : a ≠ b) : SetIs led h' a ks := x.at' fun o e => (hs.2 a hab).trans e
theorem mem_addK {k x : Int} {ks : List Int} : x ∈ addK k ks ↔ x = k ∨ x ∈ ks := by
  unfold addK
  split
  · exact ⟨.inr, fun h => h.elim (fun e => e ▸ ‹k ∈ ks›) id⟩
  · exact List.mem_cons
theorem len_addK {k : Int} {ks : List Int} : (addK k ks).length ≤ ks.length + 1 := by
  unfold addK
  split
  · (first | (law_clear; lia) | omega)
  · simp

theorem merge_loop {a o : Addr} {was epoch : Nat} {oo : Obj} {eo : Array (Int × Value)} {t : SetTable} {nm : String} (hoa : o ≠ a) (hd : oo.data = .set eo epoch t) (hf : t.fits eo.size = true) (hw : was = epoch) {f : Int × Value → PUnit → Sem (ForInStep PUnit)}
    (hfd : ∀ h x u, f (h, x) u = do
      let _ ← holding [x] (setAddHashed a x h)
      Builtin.Frozenset.unchanged nm o was
      let __do_lift ← setState o
      if (__do_lift.2.1 != epoch) = true then do unsupported "set.changed-during-merge"; pure (ForInStep.yield PUnit.unit) else pure (ForInStep.yield PUnit.unit)) :
    ∀ (l : List (Int × Value)) (s : Shared) (ks : List Int) (Q : PUnit → Shared → Prop), (∀ e ∈ l, EntOk e) → s.heap.get? o = some oo → SetIs (ledOf w) s.heap a ks → ks.length + l.length < scanBound →
      (∀ h' ks', Heap.SameBut a s.heap h' → SetIs (ledOf w) h' a ks' → (∀ k, k ∈ ks' ↔ k ∈ ks ∨ k ∈ l.map keyOf) → ks'.length ≤ ks.length + l.length → Q PUnit.unit { s with heap := h' }) →
      wpAny (model prog w) A (forIn l PUnit.unit f) Q E s
  | [], s, ks, Q, _, _, hS, _, h => by
    rw [List.forIn_nil]
    exact wpAny_pure (h s.heap ks (Heap.SameBut.refl a s.heap) hS (fun k => by simp) (by simp))
  | e :: l, s, ks, Q, hel, ho, hS, hl, h => by
    rw [List.forIn_cons]
    obtain ⟨k, tk, rfl⟩ := hel e (.head _)
    rw [List.length_cons] at hl
    refine wpAny_bind ?_
    rw [hfd]
    refine wpAny_bind (wpAny_holding (addHashed_my hS (by (first | (law_clear; lia) | omega)) fun h1 ks1 b hsb hS1 hp => ?_))
    have ho1 : h1.get? o = some oo := (hsb.2 o hoa).trans ho
    have hlen1 : ks1.length ≤ ks.length + 1 := by rw [hp.length_eq]; exact len_addK
    unfold Builtin.Frozenset.unchanged
    refine wpAny_bind (wpAny_bind (wpAny_setEpoch_of (s := { s with heap := h1 }) ho1 hd hf ?_))
    rw [if_neg (by simp [hw])]
    refine wpAny_pure (wpAny_bind (wpAny_setState_of (s := { s with heap := h1 }) ho1 hd hf ?_))
    dsimp only
    rw [if_neg (by simp)]
    refine wpAny_pure ?_
    dsimp only
    refine merge_loop hoa hd hf hw hfd l { s with heap := h1 } ks1 Q (fun e he => hel e (.tail _ he)) ho1 hS1 (by (first | (law_clear; lia) | omega)) fun h2 ks2 hsb2 hS2 hm hl2 => ?_
    refine h h2 ks2 (hsb.trans hsb2) hS2 (fun x => ?_) (by rw [List.length_cons]; (first | (law_clear; lia) | omega))
    rw [hm x, hp.mem_iff, mem_addK, List.map_cons, List.mem_cons]
    show _ ↔ x ∈ ks ∨ x = k ∨ _
    constructor
    · rintro ((q | q) | q)
      · exact .inr (.inl q)
      · exact .inl q
      · exact .inr (.inr q)
    · rintro (q | q | q)
      · exact .inl (.inr q)
      · exact .inl (.inl q)
      · exact .inr q

theorem merge_my {a o : Addr} {ks kr : List Int} {nm : String} {Q : Unit → Shared → Prop} (hoa : o ≠ a) (hne : ks ≠ []) (hS : SetIs (ledOf w) s.heap a ks) (hO : SetIs (ledOf w) s.heap o kr) (hl : ks.length + kr.length < scanBound)
    (h : ∀ h' ks', Heap.SameBut a s.heap h' → SetIs (ledOf w) h' a ks' → (∀ k, k ∈ ks' ↔ k ∈ ks ∨ k ∈ kr) → ks'.length ≤ ks.length + kr.length → Q () { s with heap := h' }) :
    wpAny (model prog w) A (Builtin.Frozenset.merge nm a o) Q E s := by
  obtain ⟨oo, eo, epo, to, ho, hexo, hdo, helo, ek, hndo, hbo, hfo, hTo⟩ := id hO
  unfold Builtin.Frozenset.merge
  refine wpAny_bind (wpAny_setEpoch_of ho hdo hfo ?_)
  unfold setMerge
  rw [if_neg (by simpa using Ne.symm hoa)]
  refine wpAny_bind (wpAny_setState_of ho hdo hfo ?_)
  dsimp only
  have hsz : eo.size = kr.length := by rw [← ek, List.length_map, Array.length_toList]
  by_cases he : eo.isEmpty = true
  · rw [if_pos he]
    have : kr = [] := by
      have : eo.size = 0 := by simpa using he
      exact List.length_eq_zero_iff.mp (by (first | (law_clear; lia) | omega))
    subst this
    exact wpAny_pure (h s.heap ks (Heap.SameBut.refl a s.heap) hS (fun k => by simp) (by simp))
  · rw [if_neg he]
    refine wpAny_bind (roomFor_my hS (by rw [hsz]; have : scanBound = 4096 := rfl; (first | (law_clear; lia) | omega)) fun h1 ks1 hsb1 hS1 hp1 => ?_)
    have ho1 : h1.get? o = some oo := (hsb1.2 o hoa).trans ho
    obtain ⟨oa, ea, epa, ta, hoa', hexa, hda, hela, eka, hnda, hba, hfa, hTa⟩ := id hS1
    refine wpAny_bind (wpAny_setState_of (s := { s with heap := h1 }) hoa' hda hfa ?_)
    dsimp only
    have hroad : ta.road to = .oneByOne := by
      unfold SetTable.road
      have : ta.fill ≠ 0 := by
        have h1 : ea.size = ks.length := by rw [← hp1.length_eq, ← eka, List.length_map, Array.length_toList]
        have h2 : 0 < ks.length := List.length_pos_iff.mpr hne
        simp only [SetTable.fits, Bool.and_eq_true, beq_iff_eq] at hfa
        unfold SetTable.fill
        (first | (law_clear; lia) | omega)
      rw [if_pos (by simpa using this)]
    rw [hroad]
    dsimp only
    refine wpAny_bind (unseen_my (s := { s with heap := h1 }) (kr := kr) hoa (hO.sameBut hsb1 hoa) ho1 hdo hfo hTo hS1 fun xs h2 hpx hsb2 hS2 => ?_)
    have ho2 : h2.get? o = some oo := (hsb2.2 o hoa).trans ho1
    rw [← Array.forIn_toList]
    have hx1 : xs.toList.length = kr.length := hpx.length_eq.trans (Array.length_toList.trans hsz)
    have hx2 : ks1.length = ks.length := hp1.length_eq
    refine wpAny_bind (merge_loop (t := to) (was := epo) (epoch := epo) hoa hdo hfo rfl (fun _ _ _ => rfl) xs.toList { s with heap := h2 } ks1 _ (fun e he => helo e (hpx.mem_iff.mp he)) ho2 hS2 (by (first | (law_clear; lia) | omega)) fun h3 ks3 hsb3 hS3 hm hl3 => ?_)
    refine wpAny_pure (h h3 ks3 ((hsb1.trans hsb2).trans hsb3) hS3 (fun k => ?_) (by (first | (law_clear; lia) | omega)))
    rw [hm k, hp1.mem_iff, (hpx.map keyOf).mem_iff, ek]

theorem SetIs.typeIs {led : Bool} {a : Addr} {ks : List Int} (x : SetIs led s.heap a ks) : s.TypeIs (.ref a) "set" := by
  obtain ⟨o, _, _, _, ho, hex, _⟩ := x
  exact ⟨o, ho, hex.1⟩
theorem call_ior_my {a o : Addr} {ks kr : List Int} {Q : Value → Shared → Prop} (hoa : o ≠ a) (hne : ks ≠ []) (hS : SetIs (ledOf w) s.heap a ks) (hO : SetIs (ledOf w) s.heap o kr) (hl : ks.length + kr.length < scanBound)
    (h : ∀ h' ks', Heap.SameBut a s.heap h' → SetIs (ledOf w) h' a ks' → (∀ k, k ∈ ks' ↔ k ∈ ks ∨ k ∈ kr) → ks'.length ≤ ks.length + kr.length → Q (.ref a) { s with heap := h' }) :
    wpAny (model prog w) A (call (.builtin "set.__ior__") [.ref a, .ref o]) Q E s := by
  refine wpAny_call_entry F.slot_set_ior hS.typeIs F.entry_set_ior ?_ (F.args_set_ior_2 _ _)
  show wpAny _ _ (do
    let (self, other) ← Builtin.Frozenset.slot1 "__ior__" ⟨[.ref a, .ref o], []⟩
    if !(← Builtin.Frozenset.isAnySet other) then rule s!"set.{"__ior__"}.declined"; return ← ret .notImplemented
    Builtin.Frozenset.updateFrom s!"set.{"__ior__"}" (← Builtin.Frozenset.addrOf self) other
    ret self) _ _ s
  refine wpAny_bind (m := Builtin.Frozenset.slot1 "__ior__" ⟨[.ref a, .ref o], []⟩) (wpAny_bind (m := slotArgs "__ior__" 1 ⟨[.ref a, .ref o], []⟩) (wpAny_pure (wpAny_pure ?_)))
  dsimp only
  have any : ∀ {A' : Around} {Q' : Bool → Shared → Prop}, Q' true s → wpAny (model prog w) A' (Builtin.Frozenset.isAnySet (.ref o)) Q' E s := by
    intro A' Q' hq
    unfold Builtin.Frozenset.isAnySet
    refine wpAny_bind (wpAny_isInstance hO.typeIs sub_set_self ?_)
    exact wpAny_pure hq
  refine wpAny_bind (any ?_)
  rw [Bool.not_true, if_neg Bool.false_ne_true]
  refine wpAny_bind (m := Builtin.Frozenset.addrOf (.ref a)) (wpAny_pure ?_)
  refine wpAny_bind ?_
  unfold Builtin.Frozenset.updateFrom
  refine wpAny_bind (any ?_)
  rw [if_pos rfl]
  refine wpAny_bind (m := Builtin.Frozenset.addrOf (.ref o)) (wpAny_pure ?_)
  refine merge_my hoa hne hS hO hl fun h' ks' h1 h2 h3 h4 => ?_
  exact wpAny_pure ⟨_, rfl, h h' ks' h1 h2 h3 h4⟩
theorem ior_my {a o : Addr} {ks kr : List Int} {Q : Value → Shared → Prop} (hoa : o ≠ a) (hne : ks ≠ []) (hS : SetIs (ledOf w) s.heap a ks) (hO : SetIs (ledOf w) s.heap o kr) (hl : ks.length + kr.length < scanBound)
    (h : ∀ h' ks', Heap.SameBut a s.heap h' → SetIs (ledOf w) h' a ks' → (∀ k, k ∈ ks' ↔ k ∈ ks ∨ k ∈ kr) → ks'.length ≤ ks.length + kr.length → Q (.ref a) { s with heap := h' }) :
    wpAny (model prog w) A (inplaceOp .BitOr (.ref a) (.ref o)) Q E s := by
  unfold inplaceOp
  refine wpAny_holding ?_
  have hfi : fillsInplaceSlot (.type "set") Operator.BitOr.info.2 (Operator.BitOr == .Add) = pure true := by
    unfold fillsInplaceSlot
    show (typeLookup (.type "set") (dunderI "or") >>= fun fi => pure (fi.isSome && !isSeqSlot fi)) = pure true
    rw [F.slot_set_ior.lookup]
    rfl
  refine wpAny_bind (wpAny_typeOf hS.typeIs (wpAny_bind (wpAny_of_eq hfi ?_)))
  show wpAny _ _ (if true = true then _ else _) Q E s
  rw [if_pos rfl]
  refine wpAny_bind (wpAny_tryMethod_slot hS.typeIs F.slot_set_ior (call_ior_my hoa hne hS hO hl fun h' ks' h1 h2 h3 h4 => ⟨(fun q => nomatch q), ?_⟩))
  exact wpAny_bind (wpAny_rule (wpAny_pure (h h' ks' h1 h2 h3 h4)))
end
end
section
open PySem PySem.W PyProof.Rows PySem.Calls
set_option Elab.async false
set_option maxRecDepth 100000
namespace F2
theorem owner_set_iterator : Manifest.owners.lookup (String.ofList ['r', 'o', 't', 'a', 'r', 'e', 't', 'i', '_', 't', 'e', 's'].reverse) = some Manifest.sig_set_iterator := by kernel_rfl
theorem slot_next : Slot "set_iterator" "__next__" "set_iterator.__next__" :=
  .of (owner := "set_iterator") (n := "__next__") (by rw [typeLookup_type, builtinLookup_eq_fast]; kernel_rfl) (by decide +kernel) (by decide +kernel) (by decide +kernel)
    (by first | exact .inl (by decide +kernel) | exact .inr (by decide +kernel)) (by rw [isSubtype_type]; kernel_rfl)
theorem entry_next : entryFor table "set_iterator.__next__" = some Builtin.«set_iterator.__next__» := entryFor_of_tree (by kernel_rfl)
theorem args_next (a : Value) : argsOk "set_iterator.__next__" ⟨[a], []⟩ := by
  unfold argsOk; rw [signature?_of (id := "set_iterator.__next__") (n := ['_', '_', 't', 'x', 'e', 'n', '_', '_']) (o := ['r', 'o', 't', 'a', 'r', 'e', 't', 'i', '_', 't', 'e', 's']) (by kernel_rfl) owner_set_iterator]; kernel_rfl
theorem slot_iter : Slot "set_iterator" "__iter__" "set_iterator.__iter__" :=
  .of (owner := "set_iterator") (n := "__iter__") (by rw [typeLookup_type, builtinLookup_eq_fast]; kernel_rfl) (by decide +kernel) (by decide +kernel) (by decide +kernel)
    (by first | exact .inl (by decide +kernel) | exact .inr (by decide +kernel)) (by rw [isSubtype_type]; kernel_rfl)
theorem entry_iter : entryFor table "set_iterator.__iter__" = some Builtin.«dict_keyiterator.__iter__» :=
  entryFor_alias (id' := "dict_keyiterator.__iter__") (by kernel_rfl) rfl (by decide +kernel) (by kernel_rfl)
theorem args_iter (a : Value) : argsOk "set_iterator.__iter__" ⟨[a], []⟩ := by
  unfold argsOk; rw [signature?_of (id := "set_iterator.__iter__") (n := ['_', '_', 'r', 'e', 't', 'i', '_', '_']) (o := ['r', 'o', 't', 'a', 'r', 'e', 't', 'i', '_', 't', 'e', 's']) (by kernel_rfl) owner_set_iterator]; kernel_rfl
theorem entry_set_iter : entryFor table "set.__iter__" = some Builtin.«frozenset.__iter__» :=
  entryFor_alias (id' := "frozenset.__iter__") (by kernel_rfl) rfl (by decide +kernel) (by kernel_rfl)
end F2
section
variable {prog : Program} {w : World} {A : Around} {E : Value → Shared → Prop} {s : Shared}
noncomputable abbrev itObj (first : Value) (i : Nat) (a : Addr) (n ep : Nat) : Obj := { cls := .type "set_iterator", dict := none, data := .fields #[first, .int i 0, .ref a, .int n 0, .int ep 0], slots := #[] }
theorem it_self {I a : Addr} {first : Value} {i n ep : Nat} {Q : Value → Shared → Prop} (hit : s.heap.get? I = some (itObj first i a n ep)) (h : Q (.ref I) s) : wpAny (model prog w) A (pyIter (.ref I)) Q E s := by
  have hT : s.TypeIs (.ref I) "set_iterator" := ⟨_, hit, rfl⟩
  refine wpAny_pyIter_slot hT F2.slot_iter (wpAny_call_entry F2.slot_iter hT F2.entry_iter ?_ (F2.args_iter _))
  show wpAny _ _ (ret (.ref I)) _ _ s
  exact wpAny_pure ⟨_, rfl, "set_iterator", _, hT, F2.slot_next.lookup, h⟩

/-- what a turn's reading of the iterator comes to -/
theorem it_open {I a : Addr} {first : Value} {i n ep : Nat} {oo : Obj} {es : Array (Int × Value)} {t : SetTable} {Q : Option Value → Shared → Prop} (hit : s.heap.get? I = some (itObj first i a n ep)) (ho : s.heap.get? a = some oo) (hd : oo.data = .set es ep t) (hf : t.fits es.size = true) (hn : n = es.size)
    (h : wpAny (model prog w) A.in1 (if let .int slot _ := first then do
        match ← setNext a slot.toNat i ep with
        | some (x, next) =>
          setField (.ref I) 0 (rawInt next)
          setField (.ref I) 1 (rawInt ((i : Int) + 1))
          ret x
        | none => setField (.ref I) 2 .none; raiseNew (← newExc (.type "StopIteration") [])
      else do
        let some places ← seqItems? first | unsupported "internal:set_iterator"
        match places[i]? with
        | some (.int place _) =>
          let x ← setNextDrawn a place.toNat ep
          setField (.ref I) 1 (rawInt ((i : Int) + 1))
          ret x
        | some _ => unsupported "internal:set_iterator"
        | none => setField (.ref I) 0 (rawInt 0); setField (.ref I) 2 .none; raiseNew (← newExc (.type "StopIteration") []))
      (fun fin s' => ∃ r, fin = .done (.ret r) ∧ Q (some r) s') (fun e s' => ∃ oe, e = .ref oe ∧ (∃ x, s'.heap.get? oe = some x ∧ x.cls = .type "StopIteration") ∧ Q none s') s) : wpAny (model prog w) A (pyNext (.ref I)) Q E s := by
  have hT : s.TypeIs (.ref I) "set_iterator" := ⟨_, hit, rfl⟩
  subst hn
  unfold pyNext
  refine wpAny_bind (wpAny_attempt (wpAny_callSpecial?_slot (name := Str.ofString "__next__") hT F2.slot_next (wpAny_call_entry F2.slot_next hT F2.entry_next ?_ (F2.args_next _))))
  unfold Builtin.«set_iterator.__next__»
  refine wpAny_bind (m := slotArgs "__next__" 0 ⟨[.ref I], []⟩) (wpAny_pure ?_)
  refine wpAny_bind (wpAny_fieldsOf hit rfl ?_)
  dsimp only
  refine wpAny_bind (wpAny_setEntries_of ho hd hf ?_)
  rw [if_neg (by simp)]
  refine wpAny_mono h (fun fin s' hq => ?_) (fun e s' hq => ?_)
  · obtain ⟨r, e, hq⟩ := hq
    exact ⟨r, e, wpAny_pure hq⟩
  · obtain ⟨oe, rfl, ⟨x, hx, hc⟩, hq⟩ := hq
    refine wpAny_bind (wpAny_isInstance (T := "StopIteration") (b := true) ⟨x, hx, hc⟩ isSubtype_stop ?_)
    exact wpAny_pure hq
end
end
section
open PySem PySem.W PyProof.Rows PySem.Calls
set_option Elab.async false
set_option maxRecDepth 100000
section
variable {prog : Program} {w : World} {A : Around} {E : Value → Shared → Prop} {s : Shared}
theorem stop_my {α : Type} (hh : A.handled = none) {Q : α → Shared → Prop} (h : ∀ h' oe, (∀ b o, s.heap.get? b = some o → h'.get? b = some o) → (∃ x, h'.get? oe = some x ∧ x.cls = .type "StopIteration") → E (.ref oe) { s with heap := h' }) :
    wpAny (model prog w) A (do raiseNew (← newExc (.type "StopIteration") [])) Q E s := by
  refine wpAny_bind ?_
  simp only [newExc, newTuple]
  refine wpAny_bind (wpAny_newObj_type ?_ (by size_fits))
  refine wpAny_bind (m := firstArgMember _ _) (wpAny_of_eq (a := Value.none) (by first | rfl | (simp only [firstArgMember]; rfl)) ?_)
  refine wpAny_newObj_type ?_ (by size_fits)
  unfold raiseNew
  refine wpAny_bind (wpAny_handled ?_)
  rw [hh]
  refine wpAny_bind (wpAny_pure (wpAny_throw ?_))
  exact h _ _ (fun b o e => Heap.get?_push_of_some _ (Heap.get?_push_of_some _ e)) ⟨_, Heap.get?_push_size _ rfl, rfl⟩

theorem setWalk_text {o : Addr} {Q : Array (Int × Value) → Shared → Prop} {oo : Obj} {es : Array (Int × Value)} {ep : Nat} {t : SetTable} (ho : s.heap.get? o = some oo) (hd : oo.data = .set es ep t) (hf : t.fits es.size = true)
    (hb : w.params.followText "set-order" = true) (h : Q (pickOrder (w.params.setOrder o ep) es) s) : wpAny (model prog w) A (setWalk o) Q E s := by
  unfold setWalk
  refine wpAny_bind (wpAny_setState_of ho hd hf ?_)
  dsimp only
  unfold setsByText
  refine wpAny_bind (wpAny_bind (wpAny_askSetting (wpAny_pure ?_)))
  show wpAny (model prog w) A (if w.params.followText "set-order" = true then _ else _) _ _ _
  rw [if_pos hb]
  exact wpAny_bind (wpAny_askSetting (wpAny_pure h))

noncomputable def slotOf (place : Array Nat) : Nat → Nat
  | 0 => 0
  | i + 1 => place.getD i 0 + 1
theorem below_slot {place : Array Nat} (h : Rises place) {i : Nat} (hi : i ≤ place.size) : SetTable.below place (slotOf place i) = i := by
  cases i with
  | zero => exact below_zero h
  | succ i => exact below_next h hi

theorem Walks.setText (hh : A.handled = none) {I a : Addr} (hne : a ≠ I) {oo : Obj} {es : Array (Int × Value)} {ep : Nat} {t : SetTable} (hd : oo.data = .set es ep t) (hf : t.fits es.size = true) (hb : w.params.followText "set-order" = true) :
    Walks prog w A I [I, a] [I] es.size (fun i v => ∃ x, (pickOrder (w.params.setOrder a ep) es)[i]? = some x ∧ v = x.2) (fun i h => h.get? I = some (itObj (.int 0 0) i a es.size ep) ∧ h.get? a = some oo) where
  sub := fun b hb => by simp at hb; simp [hb]
  frame := fun _ _ _ st hk => ⟨hk I (by simp) _ st.1, hk a (by simp) _ st.2⟩
  item := fun i s Q E hi st hQ => by
    refine it_open st.1 st.2 hd hf rfl ?_
    dsimp only
    have hlt : i < (pickOrder (w.params.setOrder a ep) es).size := by
      have := (pick_perm (w.params.setOrder a ep) es).length_eq
      simp only [Array.length_toList] at this
      (first | (law_clear; lia) | omega)
    unfold setNext
    refine wpAny_bind (wpAny_bind (wpAny_setState_of st.2 hd hf ?_))
    dsimp only
    unfold setsByText
    refine wpAny_bind (wpAny_bind (wpAny_askSetting (wpAny_pure ?_)))
    show wpAny (model prog w) A.in1 (if w.params.followText "set-order" = true then _ else _) _ _ _
    rw [if_pos hb, if_neg (by simp)]
    refine wpAny_bind (setWalk_text st.2 hd hf hb (wpAny_pure ?_))
    rw [Array.getElem?_eq_getElem hlt]
    dsimp only [Option.map_some]
    refine wpAny_bind (wpAny_setField_rec st.1 (by simp) fun h1 e1 s1 => ?_)
    refine wpAny_bind (wpAny_setField_rec (s := { s with heap := h1 }) e1 (by simp) fun h2 e2 s2 => ?_)
    have s12 := s1.trans s2
    refine wpAny_pure ⟨_, rfl, hQ _ h2 s.toks ⟨_, Array.getElem?_eq_getElem hlt, rfl⟩ ⟨e2, (s12.2 a hne).trans st.2⟩ fun b o hbw e => (s12.2 b (by simpa using hbw)).trans e⟩
  done := fun s Q E st hQ => by
    refine it_open st.1 st.2 hd hf rfl ?_
    dsimp only
    have hge : (pickOrder (w.params.setOrder a ep) es)[es.size]? = none := by
      have := (pick_perm (w.params.setOrder a ep) es).length_eq
      simp only [Array.length_toList] at this
      rw [Array.getElem?_eq_none_iff]
      (first | (law_clear; lia) | omega)
    unfold setNext
    refine wpAny_bind (wpAny_bind (wpAny_setState_of st.2 hd hf ?_))
    dsimp only
    unfold setsByText
    refine wpAny_bind (wpAny_bind (wpAny_askSetting (wpAny_pure ?_)))
    show wpAny (model prog w) A.in1 (if w.params.followText "set-order" = true then _ else _) _ _ _
    rw [if_pos hb, if_neg (by simp)]
    refine wpAny_bind (setWalk_text st.2 hd hf hb (wpAny_pure ?_))
    rw [hge]
    dsimp only [Option.map_none]
    refine wpAny_bind (wpAny_setField_rec st.1 (by simp) fun h1 e1 s1 => ?_)
    refine stop_my (s := { s with heap := h1 }) (show A.in1.handled = none from hh) fun h2 oe k2 hx => ⟨oe, rfl, hx, ?_⟩
    exact hQ h2 s.toks fun b o hbw e => k2 b o ((s1.2 b (by simpa using hbw)).trans e)
  self := fun i s Q E st hQ => it_self st.1 hQ

theorem Walks.setLed (hh : A.handled = none) {I a : Addr} (hne : a ≠ I) {oo : Obj} {es : Array (Int × Value)} {ep : Nat} {t : SetTable} (hd : oo.data = .set es ep t) (hf : t.fits es.size = true) (hb : w.params.followText "set-order" = false) (hT : TabOk (ledOf w) t) (hdr : (!t.plain && decide (es.size > 1)) = false) :
    Walks prog w A I [I, a] [I] es.size (fun i v => ∃ x, es[i]? = some x ∧ v = x.2) (fun i h => h.get? I = some (itObj (.int (slotOf t.place i) 0) i a es.size ep) ∧ h.get? a = some oo) where
  sub := fun b hb => by simp at hb; simp [hb]
  frame := fun _ _ _ st hk => ⟨hk I (by simp) _ st.1, hk a (by simp) _ st.2⟩
  item := fun i s Q E hi st hQ => by
    refine it_open st.1 st.2 hd hf rfl ?_
    dsimp only
    have hps : t.place.size = es.size := by
      simp only [SetTable.fits, Bool.and_eq_true, beq_iff_eq] at hf
      exact hf.1
    have hled : t.led = true := by rw [hT.led]; simp [ledOf, hb]
    unfold setNext
    refine wpAny_bind (wpAny_bind (wpAny_setState_of st.2 hd hf ?_))
    dsimp only
    unfold setsByText
    refine wpAny_bind (wpAny_bind (wpAny_askSetting (wpAny_pure ?_)))
    show wpAny (model prog w) A.in1 (if w.params.followText "set-order" = true then _ else _) _ _ _
    rw [if_neg (by rw [hb]; exact Bool.false_ne_true)]
    show wpAny (model prog w) A.in1 (if (!t.plain && decide (es.size > 1)) = true then _ else _) _ _ _
    rw [hdr, if_neg Bool.false_ne_true]
    refine wpAny_bind ?_
    show wpAny (model prog w) A.in1 (if (!t.led && !es.isEmpty) = true then _ else _) _ _ _
    rw [hled, Bool.not_true, Bool.false_and, if_neg Bool.false_ne_true]
    refine wpAny_pure ?_
    rw [Int.toNat_natCast, below_slot hT.rise (by (first | (law_clear; lia) | omega)), Array.getElem?_eq_getElem hi, Array.getElem?_eq_getElem (by (first | (law_clear; lia) | omega) : i < t.place.size)]
    refine wpAny_pure ?_
    dsimp only
    refine wpAny_bind (wpAny_setField_rec st.1 (by simp) fun h1 e1 s1 => ?_)
    refine wpAny_bind (wpAny_setField_rec (s := { s with heap := h1 }) e1 (by simp) fun h2 e2 s2 => ?_)
    have s12 := s1.trans s2
    have esl : slotOf t.place (i + 1) = t.place[i]'(by (first | (law_clear; lia) | omega)) + 1 := by
      have : i < t.place.size := by (first | (law_clear; lia) | omega)
      simp [slotOf, Array.getD, this]
    refine wpAny_pure ⟨_, rfl, hQ _ h2 s.toks ⟨_, Array.getElem?_eq_getElem hi, rfl⟩ ⟨by rw [esl]; exact e2, (s12.2 a hne).trans st.2⟩ fun b o hbw e => (s12.2 b (by simpa using hbw)).trans e⟩
  done := fun s Q E st hQ => by
    refine it_open st.1 st.2 hd hf rfl ?_
    dsimp only
    have hps : t.place.size = es.size := by
      simp only [SetTable.fits, Bool.and_eq_true, beq_iff_eq] at hf
      exact hf.1
    have hled : t.led = true := by rw [hT.led]; simp [ledOf, hb]
    unfold setNext
    refine wpAny_bind (wpAny_bind (wpAny_setState_of st.2 hd hf ?_))
    dsimp only
    unfold setsByText
    refine wpAny_bind (wpAny_bind (wpAny_askSetting (wpAny_pure ?_)))
    show wpAny (model prog w) A.in1 (if w.params.followText "set-order" = true then _ else _) _ _ _
    rw [if_neg (by rw [hb]; exact Bool.false_ne_true)]
    show wpAny (model prog w) A.in1 (if (!t.plain && decide (es.size > 1)) = true then _ else _) _ _ _
    rw [hdr, if_neg Bool.false_ne_true]
    refine wpAny_bind ?_
    show wpAny (model prog w) A.in1 (if (!t.led && !es.isEmpty) = true then _ else _) _ _ _
    rw [hled, Bool.not_true, Bool.false_and, if_neg Bool.false_ne_true]
    refine wpAny_pure ?_
    have hge : es[es.size]? = none := Array.getElem?_eq_none_iff.mpr (Nat.le_refl _)
    rw [Int.toNat_natCast, below_slot hT.rise (by (first | (law_clear; lia) | omega)), hge]
    refine wpAny_pure ?_
    dsimp only
    refine wpAny_bind (wpAny_setField_rec st.1 (by simp) fun h1 e1 s1 => ?_)
    refine stop_my (s := { s with heap := h1 }) (show A.in1.handled = none from hh) fun h2 oe k2 hx => ⟨oe, rfl, hx, ?_⟩
    exact hQ h2 s.toks fun b o hbw e => k2 b o ((s1.2 b (by simpa using hbw)).trans e)
  self := fun i s Q E st hQ => it_self st.1 hQ

theorem Walks.setDrawn (hh : A.handled = none) {I a T : Addr} (hne : a ≠ I) (hTI : T ≠ I) {oo oT : Obj} {es : Array (Int × Value)} {ep nT : Nat} {t : SetTable} {ord : List Nat} (hd : oo.data = .set es ep t) (hf : t.fits es.size = true) (hp : ord.Perm (List.range es.size)) (hT : oT.data = .seq (ord.map fun (i : Nat) => rawInt i).toArray nT) :
    Walks prog w A I [I, a, T] [I] es.size (fun i v => ∃ j x, ord[i]? = some j ∧ es[j]? = some x ∧ v = x.2) (fun i h => h.get? I = some (itObj (.ref T) i a es.size ep) ∧ h.get? a = some oo ∧ h.get? T = some oT) where
  sub := fun b hb => by simp at hb; simp [hb]
  frame := fun _ _ _ st hk => ⟨hk I (by simp) _ st.1, hk a (by simp) _ st.2.1, hk T (by simp) _ st.2.2⟩
  item := fun i s Q E hi st hQ => by
    refine it_open st.1 st.2.1 hd hf rfl ?_
    dsimp only
    have hlt : i < ord.length := by rw [hp.length_eq, List.length_range]; exact hi
    refine wpAny_bind (wpAny_seqItems st.2.2 hT ?_)
    dsimp only
    have e0 : (ord.map fun (i : Nat) => rawInt i).toArray[i]? = some (rawInt (ord[i] : Nat)) := by
      rw [List.getElem?_toArray, List.getElem?_map, List.getElem?_eq_getElem hlt]
      rfl
    rw [e0]
    show wpAny (model prog w) A.in1 (do
          let x ← setNextDrawn a ((ord[i] : Nat) : Int).toNat ep
          setField (.ref I) 1 (rawInt ((i : Int) + 1))
          ret x) _ _ _
    have hj : ord[i] < es.size := List.mem_range.mp (hp.mem_iff.mp (List.getElem_mem hlt))
    unfold setNextDrawn
    refine wpAny_bind (wpAny_bind (wpAny_setState_of st.2.1 hd hf ?_))
    dsimp only
    rw [if_neg (by simp), Int.toNat_natCast, Array.getElem?_eq_getElem hj]
    refine wpAny_pure ?_
    refine wpAny_bind (wpAny_setField_rec st.1 (by simp) fun h1 e1 s1 => ?_)
    refine wpAny_pure ⟨_, rfl, hQ _ h1 s.toks ⟨_, _, List.getElem?_eq_getElem hlt, Array.getElem?_eq_getElem hj, rfl⟩ ⟨e1, (s1.2 a hne).trans st.2.1, (s1.2 T hTI).trans st.2.2⟩ fun b o hbw e => (s1.2 b (by simpa using hbw)).trans e⟩
  done := fun s Q E st hQ => by
    refine it_open st.1 st.2.1 hd hf rfl ?_
    dsimp only
    refine wpAny_bind (wpAny_seqItems st.2.2 hT ?_)
    dsimp only
    have e0 : (ord.map fun (i : Nat) => rawInt i).toArray[es.size]? = none := by
      rw [List.getElem?_toArray, List.getElem?_eq_none_iff, List.length_map, hp.length_eq, List.length_range]
      exact Nat.le_refl _
    rw [e0]
    dsimp only
    refine wpAny_bind (wpAny_setField_rec st.1 (by simp) fun h1 e1 s1 => ?_)
    refine wpAny_bind (wpAny_setField_rec (s := { s with heap := h1 }) e1 (by simp) fun h2 e2 s2 => ?_)
    refine stop_my (s := { s with heap := h2 }) (show A.in1.handled = none from hh) fun h3 oe k2 hx => ⟨oe, rfl, hx, ?_⟩
    exact hQ h3 s.toks fun b o hbw e => k2 b o (((s1.trans s2).2 b (by simpa using hbw)).trans e)
  self := fun i s Q E st hQ => it_self st.1 hQ

theorem choose_my {src : Source} {n : Nat} {Q : Nat → Shared → Prop} (hn : n ≠ 0) (h : ∀ i d, i < n → Q i { s with drawn := d }) : wpAny (model prog w) A (choose src n) Q E s :=
  fun _ _ _ => ⟨hn, h _ _ (Nat.mod_lt _ (Nat.pos_of_ne_zero hn))⟩
theorem draw_my {α : Type} : ∀ (n : Nat) (xs : List α) (s : Shared) (Q : List α → Shared → Prop), xs.length = n → (∀ ys d, ys.Perm xs → Q ys { s with drawn := d }) → wpAny (model prog w) A (drawOrder n xs) Q E s
  | 0, xs, s, Q, hl, h => by
    have : xs = [] := List.length_eq_zero_iff.mp hl
    subst this
    exact wpAny_pure (h [] s.drawn .rfl)
  | n + 1, [], s, Q, hl, h => by simp at hl
  | n + 1, x :: xs, s, Q, hl, h => by
    refine wpAny_bind (m := choose .order (x :: xs).length) (choose_my (Nat.succ_ne_zero _) fun i d hi => ?_)
    rw [List.getElem?_eq_getElem hi]
    dsimp only
    refine wpAny_bind (draw_my n _ { s with drawn := d } _ (by rw [List.length_eraseIdx, if_pos hi]; (first | (law_clear; lia) | omega)) fun ys d' hp => ?_)
    exact wpAny_pure (h _ d' ((hp.cons _).trans (cons_erase (x :: xs) i hi)))

theorem Walks.imp {I : Addr} {fp wr : List Addr} {n : Nat} {P P' : Nat → Value → Prop} {St : Nat → Heap → Prop} (W : Walks prog w A I fp wr n P St) (h : ∀ i v, P i v → P' i v) : Walks prog w A I fp wr n P' St where
  sub := W.sub
  frame := W.frame
  item := fun i s Q E hi st hQ => W.item i s Q E hi st fun v h' tk hP => hQ v h' tk (h i v hP)
  done := W.done
  self := W.self
/-- going through a set: some order of its elements -/
theorem pyIter_set {a : Addr} {ks : List Int} {Q : Value → Shared → Prop} (hh : A.handled = none) (hS : SetIs (ledOf w) s.heap a ks)
    (h : ∀ h₂ d I fp St ord, List.Perm ord ks → Walks prog w A I fp [I] ks.length (fun i v => ∃ k t, ord[i]? = some k ∧ v = .int k t) St → St 0 h₂ → (∀ b ∈ fp, b < h₂.objs.size) → (∀ b o, s.heap.get? b = some o → h₂.get? b = some o) → s.heap.get? I = none →
      (∀ i h, St i h → ∃ o, h.get? I = some o) → @LE.le Nat _ s.heap.objs.size h₂.objs.size → Q (.ref I) { s with heap := h₂, drawn := d }) : wpAny (model prog w) A (pyIter (.ref a)) Q E s := by
  obtain ⟨oo, es, ep, t, ho, hex, hd, hel, ek, hnd, hbd, hf, hT⟩ := id hS
  have hTy := hS.typeIs
  have hlen : es.size = ks.length := by rw [← ek, List.length_map, Array.length_toList]
  have hlt : @LT.lt Nat _ a s.heap.objs.size := Heap.lt_size ho
  have keyed : ∀ x, x ∈ es.toList → ∃ t, x.2 = .int (keyOf x) t := fun x hx => by obtain ⟨k, t, rfl⟩ := hel x hx; exact ⟨t, rfl⟩
  refine wpAny_pyIter_slot hTy F.slot_set_iter (wpAny_call_entry F.slot_set_iter hTy F2.entry_set_iter ?_ (F.args_set_iter_1 _))
  unfold Builtin.«frozenset.__iter__»
  refine wpAny_bind (m := Builtin.Frozenset.slot0 "__iter__" ⟨[.ref a], []⟩) (wpAny_bind (m := slotArgs "__iter__" 0 ⟨[.ref a], []⟩) (wpAny_pure (wpAny_pure ?_)))
  unfold Builtin.Frozenset.sizeOf
  refine wpAny_bind (wpAny_bind (wpAny_setEntries_of ho hd hf (wpAny_pure ?_)))
  unfold setDrawn
  refine wpAny_bind (wpAny_bind (wpAny_setState_of ho hd hf ?_))
  dsimp only
  unfold setsByText
  refine wpAny_bind (wpAny_bind (wpAny_askSetting (wpAny_pure ?_)))
  show wpAny (model prog w) _ (pure (!(w.params.followText "set-order") && (!t.plain && decide (es.size > 1)))) _ _ _
  refine wpAny_pure ?_
  have hIn : ∀ h : Heap, h.get? h.objs.size = none := fun h => none_of_le (Nat.le_refl _)
  rw [← hlen] at h
  by_cases hc : (!(w.params.followText "set-order") && (!t.plain && decide (es.size > 1))) = true
  · rw [if_pos hc]
    refine wpAny_bind (draw_my es.size (List.range es.size) s _ (by simp) fun ord d hp => ?_)
    have hol : ord.length = es.size := by rw [hp.length_eq, List.length_range]
    refine wpAny_bind ?_
    simp only [newTuple]
    refine wpAny_newObj_type ?_ (by show (ord.map fun (i : Nat) => rawInt i).toArray.size ≤ sizeLine; rw [List.size_toArray, List.length_map, hol]; exact fits_of_scanBound hbd)
    refine wpAny_bind (wpAny_setEpoch_of (s := ⟨_, _, _, _, _⟩) (Heap.get?_push_of_some _ ho) hd hf ?_)
    refine wpAny_bind (wpAny_newObj_type (wpAny_pure ⟨_, rfl, "set_iterator", _, ⟨_, Heap.get?_push_size _ rfl, rfl⟩, F2.slot_next.lookup, ?_⟩) (by size_fits))
    dsimp only
    have hsz := Heap.size_push s.heap { cls := .type "tuple", data := .seq (ord.map fun (i : Nat) => rawInt i).toArray }
    have k1 : ∀ b o, s.heap.get? b = some o → (s.heap.push { cls := .type "tuple", data := .seq (ord.map fun (i : Nat) => rawInt i).toArray }).get? b = some o := fun b o e => Heap.get?_push_of_some _ e
    have gT : (s.heap.push { cls := .type "tuple", data := .seq (ord.map fun (i : Nat) => rawInt i).toArray }).get? s.heap.objs.size = some { cls := .type "tuple", data := .seq (ord.map fun (i : Nat) => rawInt i).toArray } := Heap.get?_push_size _ rfl
    have hTI : s.heap.objs.size ≠ (s.heap.push { cls := .type "tuple", data := .seq (ord.map fun (i : Nat) => rawInt i).toArray }).objs.size := by rw [hsz]; exact Nat.ne_of_lt (Nat.lt_succ_self _)
    have haI : a ≠ (s.heap.push { cls := .type "tuple", data := .seq (ord.map fun (i : Nat) => rawInt i).toArray }).objs.size := by rw [hsz]; exact Nat.ne_of_lt (Nat.lt_succ_of_lt hlt)
    have W := Walks.setDrawn (prog := prog) (w := w) (A := A) hh haI hTI hd hf hp (oT := { cls := .type "tuple", data := .seq (ord.map fun (i : Nat) => rawInt i).toArray }) rfl
    generalize s.heap.push { cls := .type "tuple", data := .seq (ord.map fun (i : Nat) => rawInt i).toArray } = h1 at *
    refine h _ d _ _ _ (ord.map fun j => ks.getD j 0) ?_ (Walks.imp W ?_) ⟨Heap.get?_push_size _ rfl, Heap.get?_push_of_some _ (k1 _ _ ho), Heap.get?_push_of_some _ gT⟩ ?_ (fun b o e => Heap.get?_push_of_some _ (k1 b o e)) (none_of_le (by rw [hsz]; exact Nat.le_succ _)) (fun i h st => ⟨_, st.1⟩) (by rw [Heap.size_push, hsz]; exact Nat.le_succ_of_le (Nat.le_succ _))
    · have : ks = (List.range es.size).map fun j => ks.getD j 0 := by
        apply List.ext_getElem
        · simp [hlen]
        · intro i h1 h2
          simp [List.getD, h1]
      conv => rhs; rw [this]
      exact hp.map _
    · rintro i v ⟨j, x, e1, e2, rfl⟩
      have hx : x ∈ es.toList := Array.mem_toList_iff.mpr (Array.mem_of_getElem? e2)
      obtain ⟨t', ht'⟩ := keyed x hx
      refine ⟨keyOf x, t', ?_, ht'⟩
      rw [List.getElem?_map, e1, ← ek]
      have : (es.toList.map keyOf)[j]? = some (keyOf x) := by rw [List.getElem?_map, Array.getElem?_toList, e2]; rfl
      simp [List.getD, e2]
    · intro b hb
      rw [Heap.size_push, hsz]
      simp only [List.mem_cons, List.not_mem_nil, or_false] at hb
      rcases hb with rfl | rfl | rfl
      · rw [hsz]; exact Nat.lt_succ_self _
      · exact Nat.lt_succ_of_lt (Nat.lt_succ_of_lt hlt)
      · exact Nat.lt_succ_of_lt (Nat.lt_succ_self _)
  · rw [if_neg hc]
    refine wpAny_bind (wpAny_pure ?_)
    refine wpAny_bind (wpAny_setEpoch_of ho hd hf ?_)
    refine wpAny_bind (wpAny_newObj_type (wpAny_pure ⟨_, rfl, "set_iterator", _, ⟨_, Heap.get?_push_size _ rfl, rfl⟩, F2.slot_next.lookup, ?_⟩) (by size_fits))
    have haI : a ≠ s.heap.objs.size := Nat.ne_of_lt hlt
    have hfp : ∀ b ∈ [s.heap.objs.size, a], b < (s.heap.push { cls := .type "set_iterator", data := .fields #[rawInt 0, rawInt 0, .ref a, rawInt es.size, rawInt ep] }).objs.size := by
      intro b hb
      rw [Heap.size_push]
      simp only [List.mem_cons, List.not_mem_nil, or_false] at hb
      rcases hb with rfl | rfl
      · exact Nat.lt_succ_self _
      · exact Nat.lt_succ_of_lt hlt
    by_cases hb : w.params.followText "set-order" = true
    · have W := Walks.setText (prog := prog) (A := A) hh haI hd hf hb
      refine h _ s.drawn _ _ _ ((pickOrder (w.params.setOrder a ep) es).toList.map keyOf) (by rw [← ek]; exact (pick_perm _ _).map _) (Walks.imp W ?_) ⟨Heap.get?_push_size _ rfl, Heap.get?_push_of_some _ ho⟩ hfp (fun b o e => Heap.get?_push_of_some _ e) (none_of_le (Nat.le_refl _)) (fun i h st => ⟨_, st.1⟩) (by rw [Heap.size_push]; exact Nat.le_succ _)
      rintro i v ⟨x, e1, rfl⟩
      have hx : x ∈ es.toList := (pick_perm _ _).mem_iff.mp (Array.mem_toList_iff.mpr (Array.mem_of_getElem? e1))
      obtain ⟨t', ht'⟩ := keyed x hx
      exact ⟨keyOf x, t', by rw [List.getElem?_map, Array.getElem?_toList, e1]; rfl, ht'⟩
    · have hb' : w.params.followText "set-order" = false := by simpa using hb
      have hdr : (!t.plain && decide (es.size > 1)) = false := by
        rw [hb', Bool.not_false, Bool.true_and] at hc
        exact Bool.eq_false_iff.mpr hc
      have W := Walks.setLed (prog := prog) (A := A) hh haI hd hf hb' hT hdr
      refine h _ s.drawn _ _ _ ks .rfl (Walks.imp W ?_) ⟨Heap.get?_push_size _ rfl, Heap.get?_push_of_some _ ho⟩ hfp (fun b o e => Heap.get?_push_of_some _ e) (none_of_le (Nat.le_refl _)) (fun i h st => ⟨_, st.1⟩) (by rw [Heap.size_push]; exact Nat.le_succ _)
      rintro i v ⟨x, e1, rfl⟩
      have hx : x ∈ es.toList := Array.mem_toList_iff.mpr (Array.mem_of_getElem? e1)
      obtain ⟨t', ht'⟩ := keyed x hx
      exact ⟨keyOf x, t', by rw [← ek, List.getElem?_map, Array.getElem?_toList, e1]; rfl, ht'⟩
end
end
section
open PySem PySem.W PyProof.Rows PySem.Calls
set_option Elab.async false
set_option maxRecDepth 100000
section
variable {prog : Program} {w : World} {A : Around} {E : Value → Shared → Prop} {s : Shared} {R : Result → Shared → Prop}
theorem turn1 (elt t1 i1 t2 i2 : Expr) (scope : Scope) (pos : Pos) (it acc : Value) (env : Env) :
    compTurn (.SetComp elt [⟨t1, i1, [], 0⟩, ⟨t2, i2, [], 0⟩] scope pos) 1 it acc env = (do
      standAt i2.pos
      match ← pyNext it with
      | none => pure (.done .next)
      | some v =>
        letOwnedTupleGo t2 it v
        assign t2 env v
        (do let v ← eval elt env; standAt elt.pos; let _ ← call (.builtin "set.add") [acc, v])
        again (.compLoop (.SetComp elt [⟨t1, i1, [], 0⟩, ⟨t2, i2, [], 0⟩] scope pos) 1 it acc env)) := by rfl
theorem turn0 (elt t1 i1 t2 i2 : Expr) (scope : Scope) (pos : Pos) (it acc : Value) (env : Env) :
    compTurn (.SetComp elt [⟨t1, i1, [], 0⟩, ⟨t2, i2, [], 0⟩] scope pos) 0 it acc env = (do
      standAt i1.pos
      match ← pyNext it with
      | none => pure (.done .next)
      | some v =>
        letOwnedTupleGo t1 it v
        assign t1 env v
        let x ← eval i2 env
        standAt i2.pos
        let x ← foldedSetIterable i2 env x
        let _ ← runOwn (.compStart (.SetComp elt [⟨t1, i1, [], 0⟩, ⟨t2, i2, [], 0⟩] scope pos) 1 (← holding [x] (pyIter x)) acc env) env
        again (.compLoop (.SetComp elt [⟨t1, i1, [], 0⟩, ⟨t2, i2, [], 0⟩] scope pos) 0 it acc env)) := by rfl

theorem inner_loop {elt t1 i1 t2 i2 : Expr} {scope : Scope} {pos : Pos} {it acc : Value} {env : Env} (I : Nat → Shared → Prop)
    (turn : ∀ n s, I n s → ∀ K : Shared → Prop, (∀ m s', m < n → I m s' → K s') → ∀ R' : Shared → Prop, (∀ s', R (.ok .next) s' → R' s') → wpAny (model prog w) A (pyNext it) (fun r s₁ => match r with
      | none => R' s₁
      | some v => wpAny (model prog w) A (letOwnedTupleGo t2 it v) (fun _ s₂ => wpAny (model prog w) A (assign t2 env v) (fun _ s₃ => wpAny (model prog w) A (eval elt env) (fun x s₄ =>
          wpAny (model prog w) A (call (.builtin "set.add") [acc, x]) (fun _ s₅ => K s₅) noE s₄) noE s₃) noE s₂) noE s₁) noE s)
    (n : Nat) (h : I n s) : codeAny (model prog w) A (.compLoop (.SetComp elt [⟨t1, i1, [], 0⟩, ⟨t2, i2, [], 0⟩] scope pos) 1 it acc env) R s := by
  refine codeAny_loop rfl I (fun n s hI => ?_) n h
  show wpAny _ A ((compTurn (.SetComp elt [⟨t1, i1, [], 0⟩, ⟨t2, i2, [], 0⟩] scope pos) 1 it acc env).onRaise (fun x => do noteFrame x env; theTreesLotGoes x)) _ _ s
  refine wpAny_noted ?_
  rw [turn1]
  refine wpAny_bind (wpAny_standAt (wpAny_bind (wpAny_mono (turn n s hI (fun s' => ∃ m, m < n ∧ I m s') (fun m s' a b => ⟨m, a, b⟩) (R (.ok .next)) fun _ q => q) (fun r s₁ h₁ => ?_) fun _ _ x => x.elim)))
  cases r with
  | none => exact wpAny_pure h₁
  | some v =>
    refine wpAny_bind (wpAny_mono h₁ (fun _ s₂ h₂ => wpAny_bind (wpAny_mono h₂ (fun _ s₃ h₃ => ?_) fun _ _ x => x.elim)) fun _ _ x => x.elim)
    refine wpAny_bind (wpAny_bind (wpAny_mono h₃ (fun x s₄ h₄ => ?_) fun _ _ x => x.elim))
    refine wpAny_bind (wpAny_standAt (wpAny_bind (wpAny_mono h₄ (fun _ s₅ h₅ => ?_) fun _ _ x => x.elim)))
    exact wpAny_pure (wpAny_pure ⟨rfl, h₅⟩)
theorem outer_loop {elt t1 i1 t2 i2 : Expr} {scope : Scope} {pos : Pos} {it acc : Value} {env : Env} (I : Nat → Shared → Prop)
    (hs : ∀ x, foldedSetIterable i2 env x = pure x)
    (turn : ∀ n s, I n s → ∀ K : Shared → Prop, (∀ m s', m < n → I m s' → K s') → ∀ R' : Shared → Prop, (∀ s', R (.ok .next) s' → R' s') → wpAny (model prog w) A (pyNext it) (fun r s₁ => match r with
      | none => R' s₁
      | some v => wpAny (model prog w) A (letOwnedTupleGo t1 it v) (fun _ s₂ => wpAny (model prog w) A (assign t1 env v) (fun _ s₃ => wpAny (model prog w) A (eval i2 env) (fun x s₄ =>
          wpAny (model prog w) A (pyIter x) (fun it' s₅ => wpAny (model prog w) A (runOwn (.compStart (.SetComp elt [⟨t1, i1, [], 0⟩, ⟨t2, i2, [], 0⟩] scope pos) 1 it' acc env) env) (fun _ s₆ => K s₆) noE s₅) noE s₄) noE s₃) noE s₂) noE s₁) noE s)
    (n : Nat) (h : I n s) : codeAny (model prog w) A (.compLoop (.SetComp elt [⟨t1, i1, [], 0⟩, ⟨t2, i2, [], 0⟩] scope pos) 0 it acc env) R s := by
  refine codeAny_loop rfl I (fun n s hI => ?_) n h
  show wpAny _ A ((compTurn (.SetComp elt [⟨t1, i1, [], 0⟩, ⟨t2, i2, [], 0⟩] scope pos) 0 it acc env).onRaise (fun x => do noteFrame x env; theTreesLotGoes x)) _ _ s
  refine wpAny_noted ?_
  rw [turn0]
  refine wpAny_bind (wpAny_standAt (wpAny_bind (wpAny_mono (turn n s hI (fun s' => ∃ m, m < n ∧ I m s') (fun m s' a b => ⟨m, a, b⟩) (R (.ok .next)) fun _ q => q) (fun r s₁ h₁ => ?_) fun _ _ x => x.elim)))
  cases r with
  | none => exact wpAny_pure h₁
  | some v =>
    refine wpAny_bind (wpAny_mono h₁ (fun _ s₂ h₂ => wpAny_bind (wpAny_mono h₂ (fun _ s₃ h₃ => ?_) fun _ _ x => x.elim)) fun _ _ x => x.elim)
    refine wpAny_bind (wpAny_mono h₃ (fun x s₄ h₄ => ?_) fun _ _ x => x.elim)
    refine wpAny_bind (wpAny_standAt (wpAny_bind (wpAny_of_eq (hs x) ?_)))
    refine wpAny_bind (wpAny_holding (wpAny_mono h₄ (fun it' s₅ h₅ => ?_) fun _ _ x => x.elim))
    refine wpAny_bind (wpAny_mono h₅ (fun _ s₆ h₆ => ?_) fun _ _ x => x.elim)
    exact wpAny_pure ⟨rfl, h₆⟩
theorem start_my {elt t1 i1 t2 i2 : Expr} {scope : Scope} {pos : Pos} {it acc : Value} {env : Env} {d : Nat} (hd : d = 0 ∨ d = 1)
    (h0 : codeAny (model prog w) A (.compLoop (.SetComp elt [⟨t1, i1, [], 0⟩, ⟨t2, i2, [], 0⟩] scope pos) d it acc env) R s)
    (h : wpAny (model prog w) A (pyIter it) (fun it' s' => codeAny (model prog w) A (.compLoop (.SetComp elt [⟨t1, i1, [], 0⟩, ⟨t2, i2, [], 0⟩] scope pos) d it' acc env) R s') noE s) :
    codeAny (model prog w) A (.compStart (.SetComp elt [⟨t1, i1, [], 0⟩, ⟨t2, i2, [], 0⟩] scope pos) d it acc env) R s := by
  refine codeAny_of_tree ?_
  show wpAny _ _ ((compStart (.SetComp elt [⟨t1, i1, [], 0⟩, ⟨t2, i2, [], 0⟩] scope pos) d it acc env).onRaise (fun x => do noteFrame x env; standAt theWindowsPlace)) _ _ s
  refine wpAny_notedAt ?_
  unfold compStart
  rcases hd with rfl | rfl
  · show wpAny _ _ (ask >>= _) _ _ s
    refine wpAny_bind (wpAny_askSetting (wpAny_ite ?_))
    split
    · first
      | exact wpAny_bind (wpAny_pure (wpAny_pure (And.intro rfl h0)))
      | exact wpAny_pure (And.intro rfl h0)
    · refine wpAny_bind (wpAny_rule ?_)
      show wpAny _ _ (standAt i1.pos >>= _) _ _ s
      exact wpAny_bind (wpAny_standAt (wpAny_bind (wpAny_mono h (fun it' s' h' => wpAny_pure (And.intro rfl h')) fun _ _ x => x.elim)))
  · show wpAny _ _ (ask >>= _) _ _ s
    refine wpAny_bind (wpAny_askSetting (wpAny_ite ?_))
    split
    · first
      | exact wpAny_bind (wpAny_pure (wpAny_pure (And.intro rfl h0)))
      | exact wpAny_pure (And.intro rfl h0)
    · refine wpAny_bind (wpAny_rule ?_)
      show wpAny _ _ (standAt i2.pos >>= _) _ _ s
      exact wpAny_bind (wpAny_standAt (wpAny_bind (wpAny_mono h (fun it' s' h' => wpAny_pure (And.intro rfl h')) fun _ _ x => x.elim)))
end
end
section
open PySem PySem.W PyProof.Rows PySem.Calls
set_option Elab.async false
set_option maxRecDepth 100000
section
variable {prog : Program} {w : World} {A : Around} {E : Value → Shared → Prop} {s : Shared}
theorem call_add_my {led : Bool} {a : Addr} {ks : List Int} {k : Int} {tk : Tok} {Q : Value → Shared → Prop} (hS : SetIs led s.heap a ks) (hroom : ks.length + 1 < scanBound)
    (h : ∀ h' ks' t, Heap.SameBut a s.heap h' → SetIs led h' a ks' → ks'.Perm (addK k ks) → Q .none { s with heap := h', toks := t }) :
    wpAny (model prog w) A (call (.builtin "set.add") [.ref a, .int k tk]) Q E s := by
  refine wpAny_call_entry F.slot_set_add hS.typeIs F.entry_set_add ?_ (F.args_set_add_2 _ _)
  unfold Builtin.«set.add» Builtin.Frozenset.oneOther
  simp only [List.isEmpty_nil, bind_assoc]
  unfold Builtin.Frozenset.addrOf
  refine wpAny_bind (wpAny_pure ?_)
  try dsimp only
  refine wpAny_bind (wpAny_pure ?_)
  try dsimp only
  refine wpAny_bind (setAdd_my hS hroom fun h' ks' b h1 h2 h3 => ?_)
  show wpAny _ _ (ret Value.none) _ _ _
  exact wpAny_pure ⟨_, rfl, h h' ks' _ h1 h2 h3⟩

/-- the ints that the two loops make -/
noncomputable def Made2 (f : Int → Int → Int) (ord : List Int) (n2 i j : Nat) (x : Int) : Prop := (∃ i' k, i' < i ∧ ord[i']? = some k ∧ ∃ j' : Nat, j' < n2 ∧ x = f k (1 + j')) ∨ ∃ k, ord[i]? = some k ∧ ∃ j' : Nat, j' < j ∧ x = f k (1 + j')

theorem made_step {f : Int → Int → Int} {ord : List Int} {n2 i : Nat} {k x : Int} (e : ord[i]? = some k) : Made2 f ord n2 i n2 x ↔ Made2 f ord n2 (i + 1) 0 x := by
  constructor
  · rintro (⟨i', k', h1, h2⟩ | ⟨k', h1, j', h2, h3⟩)
    · exact .inl ⟨i', k', by (first | (law_clear; lia) | omega), h2⟩
    · exact .inl ⟨i, k', by (first | (law_clear; lia) | omega), h1, j', h2, h3⟩
  · rintro (⟨i', k', h1, h2, h3⟩ | ⟨k', h1, j', h2, h3⟩)
    · by_cases hi : i' = i
      · subst hi; exact .inr ⟨k', h2, h3⟩
      · exact .inl ⟨i', k', by (first | (law_clear; lia) | omega), h2, h3⟩
    · exact absurd h2 (Nat.not_lt_zero _)
theorem made_add {f : Int → Int → Int} {ord : List Int} {n2 i j : Nat} {k x : Int} (e : ord[i]? = some k) : Made2 f ord n2 i (j + 1) x ↔ x = f k (1 + j) ∨ Made2 f ord n2 i j x := by
  constructor
  · rintro (h | ⟨k', h1, j', h2, h3⟩)
    · exact .inr (.inl h)
    · by_cases hj : j' = j
      · subst hj
        rw [e] at h1
        cases h1
        exact .inl h3
      · exact .inr (.inr ⟨k', h1, j', by (first | (law_clear; lia) | omega), h3⟩)
  · rintro (h | h | ⟨k', h1, j', h2, h3⟩)
    · exact .inr ⟨k, e, j, by (first | (law_clear; lia) | omega), h⟩
    · exact .inl h
    · exact .inr ⟨k', h1, j', by (first | (law_clear; lia) | omega), h3⟩

theorem SetComp_my {env : Env} {elt i1 i2 : Expr} {x1 x2 : Str} {p1 p2 : Pos} {scope : Scope} {cl : List (Str × Addr)} {pos : Pos} {Q : Value → Shared → Prop} (hA : A.handled = none) (hx12 : x1 ≠ x2)
    (hclos : closureFor scope env = pure cl) (hcell : ∀ y ∈ scope.names, y.2 ≠ .cell) (hkind : scope.kind = .function)
    (hnames : ∀ y ∈ scope.names, y.2 = .local → scope.names.lookup y.1 = some .local) (hs2 : ∀ cenv x, foldedSetIterable i2 cenv x = pure x)
    (hk1 : ∀ C, (compEnvC scope cl C env).kindOf x1 = some .local) (hk2 : ∀ C, (compEnvC scope cl C env).kindOf x2 = some .local)
    (hp : ∀ C, ((compEnvC scope cl C env).scope.kind == .class || ((compEnvC scope cl C env).scope.kind == .module && (compEnvC scope cl C env).locals != (compEnvC scope cl C env).globals)) = false)
    (h : wpAny (model prog w) A (eval i1 env) (fun xv s₁ => Kept (∃ (a : Addr) (ks : List Int) (n2 : Nat) (f : Int → Int → Int), xv = .ref a ∧ SetIs (ledOf w) s₁.heap a ks ∧ ks.length * n2 < 4000 ∧ Builtin.Range.small 1 (1 + n2) 1 = true ∧
      (∀ C h tk d (m : Str → Option Value) k t, Fr s₁.heap C h (fun y => if y = x1 then some (.int k t) else m y) → ∀ all, News s₁.heap C h all → (∀ b o, b ≠ C → h.get? b = some o → s₁.heap.get? b = some o ∨ (b, o) ∈ all) →
        wpAny (model prog w) A (eval i2 (compEnvC scope cl C env)) (fun x s₄ => Kept (∃ r h' tk' t₁ u₁ v₁, x = .ref r ∧ s₄ = { s₁ with heap := h', toks := tk', drawn := d } ∧ Fr s₁.heap C h' (fun y => if y = x1 then some (.int k t) else m y) ∧
          (∀ b o, b ≠ C → h.get? b = some o → h'.get? b = some o) ∧ IsRange h' r 1 (1 + n2) 1 t₁ u₁ v₁)) noE { s₁ with heap := h, toks := tk, drawn := d }) ∧
      (∀ C h tk d (m : Str → Option Value) k t j u, j ≤ (n2 : Int) → 1 ≤ j → k ∈ ks → Fr s₁.heap C h (fun y => if y = x2 then some (.int j u) else if y = x1 then some (.int k t) else m y) → ∀ all, News s₁.heap C h all → (∀ b o, b ≠ C → h.get? b = some o → s₁.heap.get? b = some o ∨ (b, o) ∈ all) →
        wpAny (model prog w) A (eval elt (compEnvC scope cl C env)) (fun y s₆ => Kept (∃ t' h' tk', y = .int (f k j) t' ∧ s₆ = { s₁ with heap := h', toks := tk', drawn := d } ∧ Fr s₁.heap C h' (fun y => if y = x2 then some (.int j u) else if y = x1 then some (.int k t) else m y) ∧
          (∀ b o, b ≠ C → h.get? b = some o → h'.get? b = some o))) noE { s₁ with heap := h, toks := tk, drawn := d }) ∧
      (∀ D h' tk d ks', s₁.heap.get? D = none → SetIs (ledOf w) h' D ks' → (∀ x, x ∈ ks' ↔ ∃ k ∈ ks, ∃ j : Nat, j < n2 ∧ x = f k (1 + j)) → ks'.length ≤ ks.length * n2 → (∀ b o, s₁.heap.get? b = some o → h'.get? b = some o) → Q (.ref D) { s₁ with heap := h', toks := tk, drawn := d }))) noE s)
    (hs : ∀ x, foldedSetIterable i1 env x = pure x) :
    wpAny (model prog w) A (eval (.SetComp elt [⟨.Name x1 p1, i1, [], 0⟩, ⟨.Name x2 p2, i2, [], 0⟩] scope pos) env) Q E s := by
  rw [arm_eval_SetComp]
  refine noE_up (wpAny_comprehension_free (use := none) rfl hs hclos hkind hnames (wpAny_mono h (fun xv s₁ h₁ => ?_) fun _ _ e => e))
  obtain ⟨a, ks, n2, f, rfl, hS, hbig, hsm, hi2, helt, hfin⟩ := h₁.out
  refine pyIter_set hA hS fun h₂ d I fp St ord hord W st0 hfp hkeep hIn hlive hsz => ?_
  refine newSet_my fun hS0 => ?_
  dsimp only at hS0 ⊢
  refine wpAny_newFunctionEnv hcell (by intro y hy; simp at hy) (fun h₁ hns₁ hsb₁ => ?_) hkind
  dsimp only at hns₁ hsb₁ ⊢
  have hC : (h₂.push { cls := .type "set", dict := none, data := .set #[] 0 (.fresh 0 0 (ledOf w)) }).objs.size = h₂.objs.size + 1 := Heap.size_push ..
  have old : ∀ b o, h₂.get? b = some o → h₁.get? b = some o := fun b o e => hsb₁.extBut b o (by rw [hC]; exact Nat.ne_of_lt (Nat.lt_succ_of_lt (Heap.lt_size e))) (Heap.get?_push_of_some _ (Heap.get?_push_of_some _ e))
  have hDC : h₂.objs.size ≠ (h₂.push { cls := .type "set", dict := none, data := .set #[] 0 (.fresh 0 0 (ledOf w)) }).objs.size := by rw [hC]; exact Nat.ne_of_lt (Nat.lt_succ_self _)
  have hS1 : SetIs (ledOf w) h₁ h₂.objs.size [] := hS0.at' fun o e => hsb₁.extBut _ o hDC (Heap.get?_push_of_some _ e)
  have hCf : ∀ b ∈ fp, b ≠ (h₂.push { cls := .type "set", dict := none, data := .set #[] 0 (.fresh 0 0 (ledOf w)) }).objs.size := fun b hb => by rw [hC]; exact Nat.ne_of_lt (Nat.lt_succ_of_lt (hfp b hb))
  have hDf : ∀ b ∈ fp, b ≠ h₂.objs.size := fun b hb => Nat.ne_of_lt (hfp b hb)
  have hgD : s₁.heap.get? h₂.objs.size = none := none_of_le hsz
  have hgC : s₁.heap.get? (h₂.push { cls := .type "set", dict := none, data := .set #[] 0 (.fresh 0 0 (ledOf w)) }).objs.size = none := none_of_le (by rw [hC]; exact Nat.le_succ_of_le hsz)
  have F1 : Fr s₁.heap (h₂.push { cls := .type "set", dict := none, data := .set #[] 0 (.fresh 0 0 (ledOf w)) }).objs.size h₁ (fun x => ([] : List (Str × Value)).reverse.lookup x) := ⟨hns₁, fun b o e => old b o (hkeep b o e), by rw [hC]; exact Nat.le_succ_of_le hsz⟩
  have st1 : St 0 h₁ := W.frame _ _ _ st0 fun b _ o e => old b o e
  have hIf : I ∈ fp := W.sub I (List.mem_singleton.mpr rfl)
  generalize h₂.objs.size = D at *
  generalize (h₂.push { cls := .type "set", dict := none, data := .set #[] 0 (.fresh 0 0 (ledOf w)) }).objs.size = C at *
  have hol : ord.length = ks.length := hord.length_eq
  show codeAny (model prog w) A (.compStart _ 0 (.ref I) (.ref D) (compEnvC scope cl C env)) (compPost (model prog w) A noE none Q (.ref D) C) _
  have loop : ∀ s₃ : Shared, s₃ = { s₁ with heap := h₁, toks := s₁.toks + ([] : List (Str × Value)).length, drawn := d } →
      codeAny (model prog w) A (.compLoop (.SetComp elt [⟨.Name x1 p1, i1, [], 0⟩, ⟨.Name x2 p2, i2, [], 0⟩] scope pos) 0 (.ref I) (.ref D) (compEnvC scope cl C env)) (compPost (model prog w) A noE none Q (.ref D) C) s₃ := by
    rintro s₃ rfl
    refine outer_loop (fun n s' => ∃ i h tk m kD, s' = { s₁ with heap := h, toks := tk, drawn := d } ∧ i ≤ ks.length ∧ n = ks.length - i ∧ St i h ∧ Fr s₁.heap C h m ∧ SetIs (ledOf w) h D kD ∧ (∀ x, x ∈ kD ↔ Made2 f ord n2 i 0 x) ∧ kD.length ≤ i * n2) (hs2 _) ?_ ks.length
      ⟨0, h₁, _, _, [], rfl, Nat.zero_le _, rfl, st1, F1, hS1, fun x => ⟨fun q => absurd q List.not_mem_nil, fun q => by rcases q with ⟨i', k, h1, _⟩ | ⟨k, _, j', h1, _⟩; exact absurd h1 (Nat.not_lt_zero _); exact absurd h1 (Nat.not_lt_zero _)⟩, Nat.zero_le _⟩
    rintro n s' ⟨i, h, tk, m, kD, rfl, hi, rfl, hst, F, hSD, hmem, hlen⟩ K hK R' hR'
    by_cases hin : i = ks.length
    · subst hin
      refine W.done _ _ _ hst fun h' tk' hk' => ?_
      have hk'' : ∀ b o, b ≠ I → h.get? b = some o → h'.get? b = some o := fun b o hb e => hk' b o (by simpa using hb) e
      refine hR' _ ?_
      refine ⟨m, F.ns.at' fun o e => hk'' _ o (Ne.symm (hCf I hIf)) e, fun h'' hs'' => ?_⟩
      refine hfin D h'' tk' d kD hgD (hSD.at' fun o e => hs''.extBut D o hDC (hk'' D o (Ne.symm (hDf I hIf)) e)) (fun x => ?_) hlen fun b o e => hs''.extBut b o (fun q => by rw [q, hgC] at e; cases e) (hk'' b o (fun q => by rw [q, hIn] at e; cases e) (F.keep b o e))
      rw [hmem x]
      constructor
      · rintro (⟨i', k, h1, h2, j', h3, rfl⟩ | ⟨k, _, j', h1, _⟩)
        · exact ⟨k, hord.mem_iff.mp (List.mem_of_getElem? h2), j', h3, rfl⟩
        · exact absurd h1 (Nat.not_lt_zero _)
      · rintro ⟨k, hk, j', h3, rfl⟩
        obtain ⟨i', hi', e⟩ := List.getElem_of_mem (hord.mem_iff.mpr hk)
        exact .inl ⟨i', k, by (first | (law_clear; lia) | omega), by rw [List.getElem?_eq_getElem hi', e], j', h3, rfl⟩
    · have hlt : i < ks.length := Nat.lt_of_le_of_ne hi hin
      clear hin
      refine W.item i _ _ _ hlt hst fun v h' tk' hP hst' hk' => ?_
      obtain ⟨k, t, hok, rfl⟩ := hP
      have hk'' : ∀ b o, b ≠ I → h.get? b = some o → h'.get? b = some o := fun b o hb e => hk' b o (by simpa using hb) e
      have F' : Fr s₁.heap C h' m := ⟨F.ns.at' fun o e => hk'' _ o (Ne.symm (hCf I hIf)) e, fun b o e => hk'' b o (fun q => by rw [q, hIn] at e; cases e) (F.keep b o e), F.above⟩
      have hSD' : SetIs (ledOf w) h' D kD := hSD.at' fun o e => hk'' D o (Ne.symm (hDf I hIf)) e
      dsimp only
      refine wpAny_pure ?_
      refine wpAny_assign_Name (wpAny_storeName_local (hk1 C) F'.ns (fun h3 hn3 hs3 => ?_) (hp C))
      replace hs3 : Heap.SameBut C h' h3 := hs3
      have F3 := F'.set hn3 hs3
      have hSD3 : SetIs (ledOf w) h3 D kD := hSD'.sameBut hs3 hDC
      have hst3 : St (i + 1) h3 := W.frame _ _ _ hst' fun b hb o e => hs3.extBut b o (hCf b hb) e
      obtain ⟨all, Nall, Hall⟩ := all_ex (C := C) F3.keep
      refine wpAny_mono (hi2 C h3 _ d m k t F3 all Nall Hall) (fun x s₄ h₄ => ?_) fun _ _ e => e
      obtain ⟨r, h4, tk4, t₁, u₁, v₁, rfl, rfl, F4, hk4, hR⟩ := h₄.out
      have hSD4 : SetIs (ledOf w) h4 D kD := hSD3.at' fun o e => hk4 D o hDC e
      have hst4 : St (i + 1) h4 := W.frame _ _ _ hst3 fun b hb o e => hk4 b o (hCf b hb) e
      have hoD4 : ∃ o, h4.get? D = some o := by obtain ⟨o, _, _, _, ho, _⟩ := hSD4; exact ⟨o, ho⟩
      obtain ⟨oD4, hoD4⟩ := hoD4
      have hDlt : @LT.lt Nat _ D h4.objs.size := Heap.lt_size hoD4
      have hClt : @LT.lt Nat _ C h4.objs.size := F4.ns.lt
      refine wpAny_pyIter_range hR hsm ?_
      have hI2 := none_at_size (s := { s₁ with heap := h4, toks := tk4, drawn := d }) F4
      have W2 := Walks.range (prog := prog) (w := w) hA h4.objs.size 1 1 n2
      have hrs : Builtin.Range.rangeSize 1 (1 + (n2 : Int)) 1 = ((n2 : Nat) : Int) := by rw [rangeSize_nat]; (first | (law_clear; lia) | omega)
      rw [hrs]
      have git : (h4.push { cls := .type "range_iterator", data := .fields #[rawInt 1, rawInt (n2 : Int), rawInt 1] }).get? h4.objs.size = some { cls := .type "range_iterator", data := .fields #[rawInt 1, rawInt (n2 : Int), rawInt 1] } := Heap.get?_push_size _ rfl
      have F5 := F4.push { cls := .type "range_iterator", data := .fields #[rawInt 1, rawInt (n2 : Int), rawInt 1] }
      have hSD5 : SetIs (ledOf w) (h4.push { cls := .type "range_iterator", data := .fields #[rawInt 1, rawInt (n2 : Int), rawInt 1] }) D kD := hSD4.at' fun o e => Heap.get?_push_of_some _ e
      have hst5 : St (i + 1) (h4.push { cls := .type "range_iterator", data := .fields #[rawInt 1, rawInt (n2 : Int), rawInt 1] }) := W.frame _ _ _ hst4 fun b _ o e => Heap.get?_push_of_some _ e
      have hfI2 : ∀ b ∈ fp, b ≠ h4.objs.size := fun b hb => Nat.ne_of_lt (Nat.lt_trans (hfp b hb) hDlt)
      have hDI2 : D ≠ h4.objs.size := Nat.ne_of_lt hDlt
      have hCI2 : C ≠ h4.objs.size := Nat.ne_of_lt hClt
      generalize (h4.push { cls := .type "range_iterator", data := .fields #[rawInt 1, rawInt (n2 : Int), rawInt 1] }) = h5 at *
      generalize h4.objs.size = I2 at *
      have hmk : A.mark none = A := rfl
      refine wpAny_runOwn ?_
      rw [hmk]
      have loop2 : ∀ s₃ : Shared, s₃ = { s₁ with heap := h5, toks := tk4, drawn := d } → codeAny (model prog w) A (.compLoop (.SetComp elt [⟨.Name x1 p1, i1, [], 0⟩, ⟨.Name x2 p2, i2, [], 0⟩] scope pos) 1 (.ref I2) (.ref D) (compEnvC scope cl C env))
          (fun r s' => match r with | .ok fl => K s' | .error e => cameBackBy (model prog w) A (compEnvC scope cl C env) noE e s') s₃ := by
        rintro s₃ rfl
        refine inner_loop (fun n s' => ∃ (j : Nat) (h : Heap) (tk : Nat) (m : Str → Option Value) (kD : List Int), s' = { s₁ with heap := h, toks := tk, drawn := d } ∧ j ≤ n2 ∧ n = n2 - j ∧ St (i + 1) h ∧ IsRangeIter h I2 (1 + (j : Nat) * 1) ((n2 : Int) - (j : Nat)) 1 ∧ Fr s₁.heap C h (fun y => if y = x1 then some (.int k t) else m y) ∧ SetIs (ledOf w) h D kD ∧ (∀ x, x ∈ kD ↔ Made2 f ord n2 i j x) ∧ kD.length ≤ i * n2 + j) ?_ n2
          ⟨0, h5, tk4, m, kD, rfl, Nat.zero_le _, rfl, hst5, (by simpa using git), F5, hSD5, hmem, hlen⟩
        clear hSD hSD' hSD3 hSD4 hSD5 hst hst' hst3 hst4 hst5 F F' F3 F4 F5 hR hk4 hk' hk'' Nall Hall git hoD4 hs3 hn3
        rintro n s' ⟨j, h6, tk6, m6, kD6, rfl, hj, rfl, hst6, hit6, F6, hSD6, hmem6, hlen6⟩ K2 hK2 R2 hR2
        have hnn : (i + 1) * n2 ≤ ks.length * n2 := Nat.mul_le_mul_right _ hlt
        have hn1 : (i + 1) * n2 = i * n2 + n2 := Nat.succ_mul _ _
        by_cases hjn : j = n2
        · subst hjn
          refine W2.done _ _ _ hit6 fun h7 tk7 hk7 => ?_
          have hk7' : ∀ b o, b ≠ I2 → h6.get? b = some o → h7.get? b = some o := fun b o hb e => hk7 b o (by simpa using hb) e
          dsimp only
          refine hR2 _ ?_
          refine hK (ks.length - (i + 1)) _ (Nat.sub_succ_lt_self _ _ hlt) ⟨i + 1, h7, tk7, _, kD6, rfl, hlt, rfl, W.frame _ _ _ hst6 fun b hb o e => hk7' b o (hfI2 b hb) e, ⟨F6.ns.at' fun o e => hk7' _ o hCI2 e, fun b o e => hk7' b o (fun q => by rw [q, hI2] at e; cases e) (F6.keep b o e), F6.above⟩, hSD6.at' fun o e => hk7' D o hDI2 e, fun x => (hmem6 x).trans (made_step hok), by (first | (law_clear; lia) | omega)⟩
        · have hjlt : j < n2 := Nat.lt_of_le_of_ne hj hjn
          refine W2.item j _ _ _ hjlt hit6 fun v h7 tk7 hP hit7 hk7 => ?_
          obtain ⟨u, rfl⟩ := hP
          have hk7' : ∀ b o, b ≠ I2 → h6.get? b = some o → h7.get? b = some o := fun b o hb e => hk7 b o (by simpa using hb) e
          have F7 : Fr s₁.heap C h7 _ := ⟨F6.ns.at' fun o e => hk7' _ o hCI2 e, fun b o e => hk7' b o (fun q => by rw [q, hI2] at e; cases e) (F6.keep b o e), F6.above⟩
          have hSD7 := hSD6.at' fun o e => hk7' D o hDI2 e
          have hst7 := W.frame _ _ _ hst6 fun b hb o e => hk7' b o (hfI2 b hb) e
          dsimp only
          refine wpAny_pure ?_
          refine wpAny_assign_Name (wpAny_storeName_local (hk2 C) F7.ns (fun h8 hn8 hs8 => ?_) (hp C))
          replace hs8 : Heap.SameBut C h7 h8 := hs8
          have F8 := F7.set hn8 hs8
          have hSD8 := hSD7.sameBut hs8 hDC
          have hst8 := W.frame _ _ _ hst7 fun b hb o e => hs8.extBut b o (hCf b hb) e
          have hit8 : IsRangeIter h8 I2 _ _ _ := hs8.extBut I2 _ (Ne.symm hCI2) hit7
          obtain ⟨all, Nall, Hall⟩ := all_ex (C := C) F8.keep
          have hkm : k ∈ ks := hord.mem_iff.mp (List.mem_of_getElem? hok)
          refine wpAny_mono (helt C h8 _ d m6 k t (1 + (j : Int) * 1) u (by (first | (law_clear; lia) | omega)) (by (first | (law_clear; lia) | omega)) hkm F8 all Nall Hall) (fun y s₆ h₆ => ?_) fun _ _ e => e
          obtain ⟨t', h9, tk9, rfl, rfl, F9, hk9⟩ := h₆.out
          have hSD9 := hSD8.at' fun o e => hk9 D o hDC e
          have hst9 := W.frame _ _ _ hst8 fun b hb o e => hk9 b o (hCf b hb) e
          have hit9 : IsRangeIter h9 I2 _ _ _ := hk9 I2 _ (Ne.symm hCI2) hit8
          have hsb : scanBound = 4096 := rfl
          refine call_add_my hSD9 (by (first | (law_clear; lia) | omega)) fun h10 ks10 t10 hs10 hSD10 hp10 => ?_
          replace hs10 : Heap.SameBut D h9 h10 := hs10
          have F10 : Fr s₁.heap C h10 _ := ⟨F9.ns.sameBut hs10 (Ne.symm hDC), fun b o e => hs10.extBut b o (fun q => by rw [q, hgD] at e; cases e) (F9.keep b o e), F9.above⟩
          have hx1v : (fun y => if y = x2 then some (Value.int (1 + (j : Int) * 1) u) else if y = x1 then some (.int k t) else m6 y) x1 = some (.int k t) := by
            show (if x1 = x2 then _ else if x1 = x1 then _ else _) = _
            rw [if_neg hx12, if_pos rfl]
          have F11 := fr_name x1 (.int k t) F10 hx1v
          have hlen10 : ks10.length ≤ kD6.length + 1 := by rw [hp10.length_eq]; exact len_addK
          refine hK2 (n2 - (j + 1)) _ (Nat.sub_succ_lt_self _ _ hjlt) ⟨j + 1, h10, t10, _, ks10, rfl, hjlt, rfl, W.frame _ _ _ hst9 fun b hb o e => hs10.extBut b o (hDf b hb) e, hs10.extBut I2 _ (Ne.symm hDI2) hit9, F11, hSD10, fun x => ?_, by (first | (law_clear; lia) | omega)⟩
          rw [hp10.mem_iff, mem_addK, hmem6 x, made_add hok, Int.mul_one]
      exact start_my (.inr rfl) (loop2 _ rfl) (W2.self 0 _ _ _ (by simpa using git) (loop2 _ rfl))
  exact start_my (.inl rfl) (loop _ rfl) (W.self 0 _ _ _ st1 (loop _ rfl))
end
end
section
open PySem PySem.W PyProof.Rows PySem.Calls
set_option Elab.async false
set_option maxRecDepth 100000
set_option maxHeartbeats 2000000
set_option pp.deepTerms false
set_option pp.deepTerms.threshold 4
set_option pp.proofs false
section
theorem add_spec {w : World} {dp un : Nat} {fr : Option (List Env)} {gd : Option (List Code)} {Q E : Value → Shared → Prop} {s : Shared} {loose : List Str} {mean : ExcName → Option Value} {mg mb : Str → Option Value}
  (a b : Int) (t u : Tok) (hd1 : dp + 5 < recursionLimit) (X : (hd.heap_39 w.params).In s.heap) (T : Top hd.view_39 loose mean mg mb s.heap)
  (h : ∀ h' tk t, (∀ b o, s.heap.get? b = some o → h'.get? b = some o) → Q (.int (a + b) t) { s with heap := h', toks := tk }) :
  wpAny (model PySem.Challenge.rw_wn0101_01.row.prog w) (AA dp un fr gd) (call (.ref 35) [.int a t, .int b u]) Q E s := by
  revert X
  k_with_none
  w_top off
  k_fill
  intro X
  (refine' enter ?X ?T ?k6 ?k7 ?k8 ?k9 ?kB ?_ ?c2 ?c3 ?c4 ?c5; (case X => assumption); (case T => assumption); (case k6 => k_is); (case k7 => k_is); (case k8 => (dsimp only [AA]; (first | (law_clear; lia) | omega))); (case k9 => first | exact BindsTo.of_eq rfl | exact binds_K (by k_in) rfl (by k_is) rfl rfl rfl); (case c5 => decide); (case kB => exact locs rfl); (case c2 => exact rfl); (case c3 => exact rfl); (case c4 => exact rfl))
  intro L h₁ F
  have N : News s.heap L h₁ [] := News.nil
  k_steps
  rename Fr _ _ _ _ => F9
  exact h _ _ _ F9.keep
theorem ior_spec {w : World} {dp un : Nat} {fr : Option (List Env)} {gd : Option (List Code)} {Q E : Value → Shared → Prop} {s : Shared} {loose : List Str} {mean : ExcName → Option Value} {mg mb : Str → Option Value}
  {a o : Addr} {ks kr : List Int} (hoa : o ≠ a) (hne : ks ≠ []) (hS : SetIs (ledOf w) s.heap a ks) (hO : SetIs (ledOf w) s.heap o kr) (hl : ks.length + kr.length < scanBound)
  (hd1 : dp + 5 < recursionLimit) (X : (hd.heap_39 w.params).In s.heap) (T : Top hd.view_39 loose mean mg mb s.heap)
  (h : ∀ h' ks' tk, (∀ b o, b ≠ a → s.heap.get? b = some o → h'.get? b = some o) → SetIs (ledOf w) h' a ks' → (∀ k, k ∈ ks' ↔ k ∈ ks ∨ k ∈ kr) → ks'.length ≤ ks.length + kr.length → Q (.ref a) { s with heap := h', toks := tk }) :
  wpAny (model PySem.Challenge.rw_wn0101_01.row.prog w) (AA dp un fr gd) (call (.ref 71) [.ref a, .ref o]) Q E s := by
  revert X
  k_with_none
  w_top off
  k_with "inplaceOp BitOr ref ref" => (with_reducible (refine stopHere ?_))
  k_fill
  intro X
  (refine' enter ?X ?T ?k6 ?k7 ?k8 ?k9 ?kB ?_ ?c2 ?c3 ?c4 ?c5; (case X => assumption); (case T => assumption); (case k6 => k_is); (case k7 => k_is); (case k8 => (dsimp only [AA]; (first | (law_clear; lia) | omega))); (case k9 => first | exact BindsTo.of_eq rfl | exact binds_K (by k_in) rfl (by k_is) rfl rfl rfl); (case c5 => decide); (case kB => exact locs rfl); (case c2 => exact rfl); (case c3 => exact rfl); (case c4 => exact rfl))
  intro L h₁ F
  have N : News s.heap L h₁ [] := News.nil
  k_steps
  rename Fr _ _ _ _ => F1
  refine ⟨?_⟩
  obtain ⟨oa, _, _, _, hoa', _⟩ := id hS
  have hLa : L ≠ a := Ne.symm (Nat.ne_of_lt (Nat.lt_of_lt_of_le (Heap.lt_size hoa') F1.above))
  refine ior_my hoa hne (hS.at' fun o q => F1.keep _ o q) (hO.at' fun o q => F1.keep _ o q) hl fun h2 ks' hs2 hS2 hm2 hl2 => ?_
  replace hs2 : Heap.SameBut a h₁ h2 := hs2
  have hk2 : ∀ b o, b ≠ a → s.heap.get? b = some o → h2.get? b = some o := fun b o hb q => hs2.extBut b o hb (F1.keep b o q)
  have F2 : Fr ({} : Heap) L h2 _ := ⟨F1.ns.sameBut hs2 hLa, fun b o q => by simp [Heap.get?] at q, Nat.zero_le _⟩
  obtain ⟨all, Nall, Hall⟩ := all_ex (C := L) F2.keep
  have hab := F1.above
  clear F1
  k_steps
  rename Fr _ _ _ _ => F9
  rename News _ _ _ _ => N9
  have k9 := keeps_all Hall F9 N9 (fun _ q => q)
  refine h _ ks' _ (fun b o hb q => k9 b o (fun r => ?_) (hk2 b o hb q)) (hS2.at' fun o q => k9 a o (Ne.symm hLa) q) hm2 hl2
  have := Heap.lt_size q
  rw [r] at this
  exact absurd this (Nat.not_lt.mpr hab)
end
end
section
open PySem PySem.W PyProof.Rows PySem.Calls
set_option Elab.async false
set_option maxRecDepth 100000
section
variable {prog : Program} {w : World} {A : Around} {E : Value → Shared → Prop} {s : Shared}
theorem display_one {K : Frag} {e : Expr} {pos : Pos} {env : Env} {Q : Value → Shared → Prop} (X : K.In s.heap) (hc : kdsCode K env.code = true) (hp : [e].all kdsPlain = true)
    (h : ∀ D h₁, SetIs (ledOf w) h₁ D [] → s.heap.get? D = none → (∀ b o, s.heap.get? b = some o → h₁.get? b = some o) → wpAny (model prog w) A (eval e env) (fun v s' => ∃ i t h₂ tk, v = .int i t ∧ s' = { s with heap := h₂, toks := tk } ∧ (∀ b o, h₁.get? b = some o → h₂.get? b = some o) ∧
      ∀ h₃ tk', (∀ b o, b ≠ D → h₂.get? b = some o → h₃.get? b = some o) → SetIs (ledOf w) h₃ D [i] → Q (.ref D) { s with heap := h₃, toks := tk' }) E { s with heap := h₁ }) :
    wpAny (model prog w) A (eval (.Set [e] 0 pos) env) Q E s := by
  rw [arm_eval_Set]
  refine wpAny_bind (wpAny_standAt ?_)
  refine wpAny_bind (kds_main X hc fun b => ?_)
  rw [kds_star [e] hp]
  have hl : (evalEach [e] env) = [eval e env] := rfl
  rw [hl]
  simp only [List.map_cons, List.map_nil]
  unfold setDisplay
  have hr : displayRoad 0 [e] = .oneByOne := rfl
  rw [hr]
  dsimp only
  rw [if_neg (by decide)]
  refine wpAny_bind (newSet_my fun hS0 => ?_)
  dsimp only
  have hn : s.heap.get? s.heap.objs.size = none := none_of_le (Nat.le_refl _)
  refine wpAny_bind (wpAny_holding ?_)
  refine wpAny_bind (wpAny_evalAll_cons (wpAny_bind (wpAny_mono (h _ _ hS0 hn fun b o q => Heap.get?_push_of_some _ q) (fun v s' h' => ?_) fun _ _ x => x)))
  obtain ⟨i, t, h₂, tk, rfl, rfl, hk, hq⟩ := h'
  refine wpAny_bind (wpAny_standAt (wpAny_pure (wpAny_evalAll_nil ?_)))
  have hS2 : SetIs (ledOf w) h₂ s.heap.objs.size [] := hS0.at' fun o q => hk _ o q
  refine wpAny_bind (wpAny_holding ?_)
  refine wpAny_bind ?_
  rw [List.forIn_cons]
  refine wpAny_bind (wpAny_bind (setAdd_my (s := { s with heap := h₂, toks := tk }) hS2 (by decide) fun h₃ ks b hs hS3 hp3 => ?_))
  refine wpAny_pure ?_
  dsimp only
  rw [List.forIn_nil]
  refine wpAny_pure ?_
  rw [if_neg (by decide)]
  refine wpAny_pure ?_
  change wpAny (model prog w) A (forIn ([] : List (Bool × Sem Value)) PUnit.unit _ >>= _) _ _ _
  rw [List.forIn_nil]
  refine wpAny_bind (wpAny_pure (wpAny_pure (wpAny_pure ?_)))
  have hk1 : ks = [i] := by
    have : addK i [] = [i] := by simp [addK]
    rw [this] at hp3
    exact List.perm_singleton.mp hp3
  subst hk1
  exact hq h₃ _ (fun b o hb q => hs.extBut b o hb q) hS3
end
end
section
open PySem PySem.W PyProof.Rows PySem.Calls
set_option Elab.async false
set_option maxRecDepth 100000
set_option maxHeartbeats 2000000
set_option pp.deepTerms false
set_option pp.deepTerms.threshold 4
set_option pp.proofs false
noncomputable def rowsNew (most : Nat) (acc : List Int) (t : Int) : List Int := acc.flatMap fun r => (List.range most).map fun (j : Nat) => r + (1 + (j : Int)) * t
noncomputable def rowsStep (most : Nat) (acc : List Int) (t : Int) : List Int := (rowsNew most acc t).foldr addK acc
noncomputable def rowsL (most : Nat) (ts : List Int) : List Int := ts.foldl (rowsStep most) [0]
theorem mem_foldr {x : Int} {acc : List Int} : ∀ l : List Int, x ∈ l.foldr addK acc ↔ x ∈ acc ∨ x ∈ l
  | [] => by simp
  | k :: l => by
    rw [List.foldr_cons, mem_addK, mem_foldr l, List.mem_cons]
    constructor
    · rintro (h | h | h)
      · exact .inr (.inl h)
      · exact .inl h
      · exact .inr (.inr h)
    · rintro (h | h | h)
      · exact .inr (.inl h)
      · exact .inl h
      · exact .inr (.inr h)
theorem mem_rowsStep {most : Nat} {acc : List Int} {t x : Int} : x ∈ rowsStep most acc t ↔ x ∈ acc ∨ ∃ k ∈ acc, ∃ j : Nat, j < most ∧ x = k + (1 + (j : Int)) * t := by
  unfold rowsStep rowsNew
  rw [mem_foldr, List.mem_flatMap]
  refine or_congr Iff.rfl ⟨?_, ?_⟩
  · rintro ⟨k, hk, h⟩
    obtain ⟨j, hj, rfl⟩ := List.mem_map.mp h
    exact ⟨k, hk, j, List.mem_range.mp hj, rfl⟩
  · rintro ⟨k, hk, j, hj, rfl⟩
    exact ⟨k, hk, List.mem_map.mpr ⟨j, List.mem_range.mpr hj, rfl⟩⟩
theorem news2 {g h : Heap} {L a b : Addr} {oa ob : Obj} (ha : h.get? a = some oa ∧ a ≠ L ∧ g.get? a = none) (hb : h.get? b = some ob ∧ b ≠ L ∧ g.get? b = none) : News g L h [(a, oa), (b, ob)] := by
  intro p hp
  simp only [List.mem_cons, List.not_mem_nil, or_false] at hp
  rcases hp with rfl | rfl <;> assumption
section
theorem rows_spec {w : World} {dp un : Nat} {fr : Option (List Env)} {gd : Option (List Code)} {Q E : Value → Shared → Prop} {s : Shared} {loose : List Str} {mean : ExcName → Option Value} {mg mb : Str → Option Value}
  (e : Addr) (vsE : List Value) (ts : List Int) (most : Nat) (tm : Tok) (hmost : most = 1 ∨ most = 2) (hlen : ts.length ≤ 6) (hts : ∀ t ∈ ts, 0 ≤ t ∧ t ≤ 100000) (heL : s.heap.IsList e vsE.toArray) (hE : IntsAre vsE ts)
  (hd1 : dp + 20 < recursionLimit) (hu : un + 80 < cLine) (X : (hd.heap_39 w.params).In s.heap) (T : Top hd.view_39 loose mean mg mb s.heap)
  (hpost : ∀ R h' tk d ks, (∀ b o, s.heap.get? b = some o → h'.get? b = some o) → SetIs (ledOf w) h' R ks → (∀ x, x ∈ ks ↔ x ∈ rowsL most ts) → s.heap.get? R = none → Q (.ref R) { s with heap := h', toks := tk, drawn := d }) :
  wpAny (model PySem.Challenge.rw_wn0101_01.row.prog w) (AA dp un fr gd) (call (.ref 166) [.ref e, .int most tm]) Q E s := by
  revert X
  k_with_none
  w_top off
  k_with "eval SetComp" => (with_reducible (refine stopHere ?_))
  k_with "eval Set nil" => (with_reducible (refine stopHere ?_))
  k_with "eval Set" => (with_reducible (refine stopHere ?_))
  k_with "eval Set cons" => (with_reducible (refine stopHere ?_))
  k_with "eval Name" => (((with_reducible show wpAny _ _ (eval _ (compEnvC _ _ _ _)) _ _ _); (with_reducible rename Fr _ _ _ _ => zF0); k_dflt (first | (refine nm_loc zF0 rfl rfl rfl ?_ (by decide)) | (refine nm_cell zF0 rfl rfl rfl (by assumption) (by assumption) ?_ (by decide)))))
  k_fill
  intro X
  (refine' enterC ?X ?T ?k6 ?k7 ?k8 ?k9 ?kB ?kD ?_ ?c2 ?c3 ?c4; (case X => assumption); (case T => assumption); (case k6 => k_is); (case k7 => k_is); (case k8 => (dsimp only [AA]; (first | (law_clear; lia) | omega))); (case k9 => first | exact BindsTo.of_eq rfl | exact binds_K (by k_in) rfl (by k_is) rfl rfl rfl); (case kB => exact rfl); (case kD => decide); (case c2 => exact rfl); (case c3 => exact rfl); (case c4 => exact rfl))
  intro L h₁ tk cells F N Y
  k_cells Y
  refine wpAny_execs_cons ?_
  repeat walk1
  obtain ⟨oA, gA0, dA⟩ : ∃ oA, h₁.get? (L + 1) = some oA ∧ oA.data = Data.cell (some (Value.int most tm)) := ⟨_, (N _ (List.Mem.tail _ (List.Mem.head _))).1, by assumption⟩
  obtain ⟨oB, gB0, dB⟩ : ∃ oB, h₁.get? (L + 1 + 1) = some oB ∧ oB.data = Data.cell none := ⟨_, (N _ (List.Mem.head _)).1, by assumption⟩
  have N := news2 ⟨gB0, (N _ (List.Mem.head _)).2⟩ ⟨gA0, (N _ (List.Mem.tail _ (List.Mem.head _))).2⟩
  refine ⟨?_⟩
  have hLD0 : ∀ D, h₁.get? D = none → L ≠ D ∧ L + 1 ≠ D ∧ L + 1 + 1 ≠ D := fun D hD => by
    obtain ⟨oL, _, _, gL, _⟩ := id F.ns
    have n1 := (N _ (List.Mem.head _)).1
    have n2 := (N _ (List.Mem.tail _ (List.Mem.head _))).1
    dsimp only at n1 n2
    exact ⟨(fun r => by rw [r, hD] at gL; cases gL), (fun r => by rw [r, hD] at n2; cases n2), (fun r => by rw [r, hD] at n1; cases n1)⟩
  refine display_one (Frag.In.keeps X F.keep) (by first | k_is | rfl | decide) rfl fun D h2 hS2 hDn hk2 => ?_
  dsimp only at hDn hk2
  obtain ⟨hLD, hAD, hBD⟩ := hLD0 D hDn
  have hDs : s.heap.get? D = none := by
    cases q : s.heap.get? D with
    | none => rfl
    | some o => have := F.keep _ _ q; rw [hDn] at this; cases this
  have F2 := F.keeps hk2
  have N2 := News.grown N hk2
  clear F N
  walk1
  refine ⟨0, _, _, _, rfl, rfl, fun _ _ q => q, fun h3 tk3 hk3 hS3 => ?_⟩
  have nB := N2 _ (List.Mem.head _)
  have nA := N2 _ (List.Mem.tail _ (List.Mem.head _))
  dsimp only at nA nB hk3
  have F3 : Fr s.heap L h3 _ := ⟨F2.ns.at' fun o q => hk3 _ o hLD q, fun b o q => hk3 b o (fun r => by rw [r, hDs] at q; cases q) (F2.keep b o q), F2.above⟩
  have N3 := news2 ⟨hk3 _ _ hBD nB.1, nB.2⟩ ⟨hk3 _ _ hAD nA.1, nA.2⟩
  clear F2 N2 hS2 hk2
  obtain ⟨all, Nall, Hall⟩ := all_ex (C := L) F3.keep
  have gA3 := hk3 _ _ hAD nA.1
  have gB3 := hk3 _ _ hBD nB.1
  have hDL := Ne.symm hLD
  clear N3
  walk1
  rename Fr _ _ _ _ => F4
  rename News _ _ _ _ => N4
  have k4 := keeps_all Hall F4 N4 (fun _ q => q)
  have gA4 := k4 _ _ nA.2.1 gA3
  have gB4 := k4 _ _ nB.2.1 gB3
  have hS4 := hS3.at' fun o q => k4 D o hDL q
  clear k4
  dsimp only
  refine wpAny_execs_cons ?_
  refine For_pure ?_ (by intro _; rfl)
  repeat walk1
  rename Fr _ _ _ _ => F5
  have heL5 := heL.at fun o q => F5.keep e o q
  refine pyIter_list_abs F5 heL5 fun h6 I hit0 hIs hIL hk6 => ?_
  have hIA : L + 1 ≠ I := (hk6 _ _ gA4).2
  have hIB : L + 1 + 1 ≠ I := (hk6 _ _ gB4).2
  have hAL : L + 1 ≠ L := nA.2.1
  have hBL : L + 1 + 1 ≠ L := nB.2.1
  have hAs := nA.2.2
  have hBs := nB.2.2
  refine ⟨fun n s' => ∃ (i : Nat) (h : Heap) (tk : Nat) (d : Drawn) (m : Str → Option Value) (R : Addr) (ks : List Int) (oB : Obj) (vb : Option Value), s' = { s with heap := h, toks := tk, drawn := d } ∧ i ≤ ts.length ∧ n = ts.length - i ∧
    Fr s.heap L h (fun y => if y = Str.ofString "rows" then some (.ref R) else m y) ∧ h.IsListIter I e i ∧ h.get? (L + 1) = some oA ∧ h.get? (L + 1 + 1) = some oB ∧ oB.data = .cell vb ∧ SetIs (ledOf w) h R ks ∧ s.heap.get? R = none ∧
    (∀ x, x ∈ ks ↔ x ∈ rowsL most (ts.take i)) ∧ ks.length ≤ (most + 1) ^ i ∧ (0 : Int) ∈ ks ∧ (∀ x ∈ ks, 0 ≤ x ∧ x ≤ i * 200000), ts.length,
    ⟨0, h6, _, s.drawn, _, D, [0], oB, none, rfl, Nat.zero_le _, rfl, F5.keeps fun b o q => (hk6 b o q).1, hit0, (hk6 _ _ gA4).1, (hk6 _ _ gB4).1, dB, hS4.at' fun o q => (hk6 D o q).1, hDs, fun x => by simp [rowsL], by simp, by simp, by simp⟩, ?_⟩
  clear F5 hit0 hk6 hS4 hS3 gA4 gB4 gA3 gB3 heL5 hDs hDn hDL hLD hAD hBD dB
  rintro n s' htk ⟨i, h9, tk, d, m, R, ks, oB, vb, rfl, hi, rfl, F, hit, gA, gB, dB, hS, hRs, hmem, hklen, h0k, hbd⟩ K hK Q' hQ'
  have hk : ∀ b o, s.heap.get? b = some o → h9.get? b = some o := F.keep
  have hl9 := heL.at fun o q => hk e o q
  have hlE : vsE.length = ts.length := hE.length
  have hIR : R ≠ I := by
    rintro rfl
    obtain ⟨o1, _, _, _, g1, _, d1, _⟩ := id hS
    obtain ⟨o2, g2, _, d2⟩ := id hit
    rw [g1] at g2
    cases g2
    rw [d1] at d2
    cases d2
  by_cases hin : i = ts.length
  · subst hin
    refine wpAny_pyNext_list_end rfl hit hl9 (by rw [List.getElem?_toArray, ← hlE]; simp) fun h' he' => ?_
    refine wpAny_execs_nil ?_
    refine hQ' _ _ ?_
    have F' : Fr s.heap L h' _ := ⟨F.ns.at' fun o q => he' L o (Ne.symm hIL) q, fun b o q => he' b o (fun r => by rw [r, hIs] at q; cases q) (hk b o q), F.above⟩
    have N' : News s.heap L h' [] := News.nil
    clear F
    dsimp only
    k_steps
    rename Fr _ _ _ _ => F9
    rw [List.take_length] at hmem
    exact hpost R _ _ d ks F9.keep (hS.at' fun o q => he' R o hIR q) hmem hRs
  · have hlt : i < ts.length := Nat.lt_of_le_of_ne hi hin
    clear hin
    obtain ⟨u, hv⟩ := hE.get i ts[i] (List.getElem?_eq_getElem hlt)
    have ht := hts ts[i] (List.getElem_mem hlt)
    have hs1 : rowsL most (ts.take (i + 1)) = rowsStep most (rowsL most (ts.take i)) ts[i] := by
      unfold rowsL
      rw [List.take_add_one, List.getElem?_eq_getElem hlt]
      simp only [Option.toList_some, List.foldl_append, List.foldl_cons, List.foldl_nil]
    generalize ts[i] = t at *
    refine wpAny_pyNext_list_item hit hl9 (x := .int t u) (by rw [List.getElem?_toArray, hv]) fun h2 hit2 hs2 => ?_
    replace hs2 : Heap.SameBut I h9 h2 := hs2
    refine wpAny_pure ?_
    have hk2 : ∀ b o, b ≠ I → h9.get? b = some o → h2.get? b = some o := fun b o hb q => hs2.extBut b o hb q
    have gA2 := hk2 _ _ hIA gA
    have gB2 := hk2 _ _ hIB gB
    have hS2 := hS.sameBut hs2 hIR
    have F2 : Fr s.heap L h2 _ := ⟨F.ns.at' fun o q => hk2 L o (Ne.symm hIL) q, fun b o q => hk2 b o (fun r => by rw [r, hIs] at q; cases q) (hk b o q), F.above⟩
    obtain ⟨rest, Nr, Or, Hr⟩ := rest_ex (C := L) [L + 1 + 1, L + 1] F2.keep
    have N2 : News s.heap L h2 ((L + 1 + 1, oB) :: (L + 1, oA) :: rest) := by
      intro q hq
      rcases List.mem_cons.mp hq with rfl | hq
      · exact ⟨gB2, hBL, hBs⟩
      rcases List.mem_cons.mp hq with rfl | hq
      · exact ⟨gA2, hAL, hAs⟩
      · exact Nr q hq
    clear F Nr
    have hRL : R ≠ L := by
      rintro rfl
      obtain ⟨o1, _, _, _, g1, _, d1, _⟩ := id hS2
      obtain ⟨o2, _, _, g2, d2, _⟩ := id F2.ns
      rw [g1] at g2
      cases g2
      rw [d1] at d2
      cases d2
    have hRA : R ≠ L + 1 := by
      intro r
      obtain ⟨o1, _, _, _, g1, _, d1, _⟩ := id hS2
      rw [r, gA2] at g1
      cases g1
      rw [d1] at dA
      cases dA
    have hRB : R ≠ L + 1 + 1 := by
      intro r
      obtain ⟨o1, _, _, _, g1, _, d1, _⟩ := id hS2
      rw [r, gB2] at g1
      cases g1
      rw [d1] at dB
      cases dB
    dsimp only
    repeat walk1
    rename Fr _ _ _ _ => F4
    rename News _ _ _ _ => N4
    have keepR : ∀ b o, b ≠ L → b ≠ L + 1 + 1 → b ≠ L + 1 → h2.get? b = some o → _ := fun b o hb1 hb2 hb3 q => (Hr b o hb1 (by simp only [List.mem_cons, List.not_mem_nil, or_false]; rintro (r | r); exact hb2 r; exact hb3 r) q).elim (fun r => F4.keep _ _ r) fun r => (N4 _ (List.Mem.tail _ (List.Mem.tail _ r))).1
    have hS4 := hS2.at' (h' := _) fun o q => keepR R o hRL hRB hRA q
    have hit4 := Heap.IsListIter.at hit2 fun o q => keepR I o hIL (Ne.symm hIB) (Ne.symm hIA) q
    have cB := (N4 _ (List.Mem.head _)).1
    have cA := (N4 _ (List.Mem.tail _ (List.Mem.head _))).1
    dsimp only at cB cA
    have hk243 : ks.length ≤ 243 := by
      refine Nat.le_trans hklen (Nat.le_trans (Nat.pow_le_pow_left (by (first | (law_clear; lia) | omega) : most + 1 ≤ 3) i) ?_)
      exact Nat.le_trans (Nat.pow_le_pow_right (by decide) (by (first | (law_clear; lia) | omega) : i ≤ 5)) (by decide)
    have hkm2 : ks.length * most ≤ 486 := by
      rcases hmost with rfl | rfl <;> (first | (law_clear; lia) | omega)
    have hkl : ks.length * most < 4000 := by (first | (law_clear; lia) | omega)
    refine ⟨?_⟩
    refine' SetComp_my rfl (by decide) ?hclos ?hcell ?hkind ?hnames ?hs2 ?hk1 ?hk2 ?hp ?_ ?hs
    case hclos => with_unfolding_all rfl
    case hcell => decide
    case hkind => with_unfolding_all rfl
    case hnames => decide
    case hs2 => intro _ _; with_unfolding_all rfl
    case hk1 => intro _; with_unfolding_all rfl
    case hk2 => intro _; with_unfolding_all rfl
    case hp => intro _; with_unfolding_all rfl
    case hs => intro _; with_unfolding_all rfl
    walk1
    rename Fr _ _ _ _ => F4
    rename News _ _ _ _ => N4
    have Xg := Frag.In.keeps X F4.keep
    have Tg := T.keeps F4.keep
    refine ⟨⟨R, ks, most, fun k j => k + j * t, rfl, hS4, hkl, ?_, ?_, ?_, ?_⟩⟩
    · rcases hmost with rfl | rfl <;> decide
    · intro C h tk d m k tt F all Nall Hall
      dsimp only at F Nall Hall
      k_steps
      rename Fr _ _ _ _ => F9
      rename News _ _ _ _ => N9
      rename IsRange _ _ _ _ _ _ _ _ => hR9
      rw [Int.add_comm] at hR9
      exact ⟨⟨_, _, _, _, _, _, rfl, rfl, F9, keeps_all Hall F9 N9 (fun p hp => by first | exact hp | exact List.mem_cons_of_mem _ hp), hR9⟩⟩
    · intro C h tk d m k tt j uu hj1 hj2 hkm F all Nall Hall
      dsimp only at F Nall Hall
      have hkb := hbd k hkm
      k_steps
      rename Fr _ _ _ _ => F9
      rename News _ _ _ _ => N9
      refine add_spec _ _ _ _ (by first | exact room1 (by assumption) (by rfl) | exact room0 (by assumption) (by rfl) | (simp only [Around.deeper]; (first | (law_clear; lia) | omega))) (Frag.In.keeps Xg F9.keep) (Tg.keeps F9.keep) fun h' tk' t' hk' => ?_
      exact ⟨⟨_, _, _, rfl, rfl, F9.keeps hk', keeps_all Hall (F9.keeps hk') (N9.grown hk') (fun p hp => by first | exact hp | exact List.mem_cons_of_mem _ hp)⟩⟩
    · intro D2 h8 tk8 d8 ks8 hD2 hS8 hm8 hl8 hk8
      dsimp only at hD2 hk8 ⊢
      have F8 := F4.keeps hk8
      have hDR : D2 ≠ R := by
        rintro rfl
        obtain ⟨o1, _, _, _, g1, _⟩ := id hS4
        rw [hD2] at g1
        cases g1
      clear F4 N4
      k_steps
      rename Fr _ _ _ _ => F8
      have hsb : scanBound = 4096 := rfl
      refine ior_spec hDR (fun r => by rw [r] at h0k; cases h0k) (hS4.at' fun o q => hk8 _ o q) hS8 (by (first | (law_clear; lia) | omega)) (by first | exact room1 (by assumption) (by rfl) | exact room0 (by assumption) (by rfl) | (simp only [Around.deeper]; (first | (law_clear; lia) | omega))) (Frag.In.keeps X F8.keep) (T.keeps F8.keep) fun h9 ks9 tk9 hk9 hS9 hm9 hl9 => ?_
      dsimp only at hk9 hS9
      have F9 : Fr s.heap L h9 _ := ⟨F8.ns.at' fun o q => hk9 _ o (Ne.symm hRL) q, fun b o q => hk9 b o (fun r => by rw [r, hRs] at q; cases q) (F8.keep b o q), F8.above⟩
      obtain ⟨all, Nall, Hall⟩ := all_ex (C := L) F9.keep
      clear F8
      k_steps
      rename Fr _ _ _ _ => F10
      rename News _ _ _ _ => N10
      have k10 := keeps_all Hall F10 N10 (fun _ q => q)
      have kk : ∀ b o, b ≠ L → b ≠ R → _ → _ := fun b o h1 h2 q => k10 b o h1 (hk9 b o h2 (hk8 b o q))
      refine ⟨hK (ts.length - (i + 1)) _ (Nat.sub_succ_lt_self _ _ hlt) ⟨i + 1, _, _, d8, _, R, ks9, _, _, rfl, hlt, rfl, F10, Heap.IsListIter.at hit4 fun o q => kk I o hIL (Ne.symm hIR) q, kk _ _ hAL (Ne.symm hRA) cA, kk _ _ hBL (Ne.symm hRB) cB, by assumption, hS9.at' fun o q => k10 R o hRL q, hRs, fun x => ?_, ?_, ?_, fun x hx => ?_⟩⟩
      · rw [hm9 x, hs1, mem_rowsStep, hmem x]
        refine or_congr Iff.rfl ?_
        rw [hm8 x]
        constructor
        · rintro ⟨k, hk, r⟩; exact ⟨k, (hmem k).mp hk, r⟩
        · rintro ⟨k, hk, r⟩; exact ⟨k, (hmem k).mpr hk, r⟩
      · have : ks9.length ≤ ks.length * (most + 1) := by rw [Nat.mul_add, Nat.mul_one]; (first | (law_clear; lia) | omega)
        exact Nat.le_trans this (by rw [Nat.pow_succ]; exact Nat.mul_le_mul_right _ hklen)
      · exact (hm9 0).mpr (.inl h0k)
      · rcases (hm9 x).mp hx with q | q
        · have := hbd x q; (first | (law_clear; lia) | omega)
        · obtain ⟨k, hk, j, hj, hx9⟩ := (hm8 x).mp q
          have hx9 : x = k + (1 + (j : Int)) * t := hx9
          have := hbd k hk
          have h2 : (j : Int) = 0 ∨ (j : Int) = 1 := by (first | (law_clear; lia) | omega)
          rcases h2 with q | q <;> rw [q] at hx9 <;> (first | (law_clear; lia) | omega)
end
end
section
open PySem PySem.W PyProof.Rows PySem.Calls
set_option Elab.async false
set_option maxRecDepth 100000
set_option maxHeartbeats 2000000
set_option pp.deepTerms false
set_option pp.deepTerms.threshold 4
set_option pp.proofs false
section
theorem bytes_abs {prog : Program} {w : World} {A : Around} {E : Value → Shared → Prop} {s : Shared} {g : Heap} {L : Addr} {m : Str → Option Value} {b : Array UInt8} {t : Tok} {Q : Value → Shared → Prop} (F : Fr g L s.heap m)
    (h : ∀ h₂ I, KBw.IsBytesIter h₂ I b t 0 → g.get? I = none → I ≠ L → (∀ b o, s.heap.get? b = some o → h₂.get? b = some o ∧ @LT.lt Nat _ b I) → Q (.ref I) { s with heap := h₂ }) : wpAny (model prog w) A (pyIter (.bytes b t)) Q E s :=
  KBw.pyIter_bytes (h _ _ ⟨_, Heap.get?_push_size _ rfl, rfl, rfl⟩ (none_at_size F) (Nat.ne_of_gt F.ns.lt) fun _ _ e => ⟨Heap.get?_push_of_some _ e, Heap.lt_size e⟩)
theorem cnt_spec {w : World} {dp un : Nat} {fr : Option (List Env)} {gd : Option (List Code)} {Q E : Value → Shared → Prop} {s : Shared} {loose : List Str} {mean : ExcName → Option Value} {mg mb : Str → Option Value}
  (b : Array UInt8) (t u : Tok) (k : Int) (hk0 : 0 ≤ k) (hk1 : k < 256) (hu0 : @Ne Nat u 0) (hu1 : @LT.lt Nat _ u s.toks)
  (hd1 : dp + 5 < recursionLimit) (X : (hd.heap_39 w.params).In s.heap) (T : Top hd.view_39 loose mean mg mb s.heap)
  (h : ∀ h' tk v t, (∀ b o, s.heap.get? b = some o → h'.get? b = some o) → v = (b.toList.count k.toNat.toUInt8 : Int) → Q (.int v t) { s with heap := h', toks := tk }) :
  wpAny (model PySem.Challenge.rw_wn0101_01.row.prog w) (AA dp un fr gd) (call (.ref 49) [.bytes b t, .int k u]) Q E s := by
  revert X
  k_with_none
  w_top off
  k_with "compareOp Is int int" => ((refine is_ints (by (first | (law_clear; lia) | omega)) (by (first | (law_clear; lia) | omega)) (by (first | (law_clear; lia) | omega)) ?_ ?_; · (first | decide | (simp only [smallInt, Bool.and_eq_true, decide_eq_true_eq]; (first | (law_clear; lia) | omega)))))
  k_with "exec For Name Name cons nil" => (with_reducible (refine stopHere ?_))
  k_fill
  intro X
  (refine' enter ?X ?T ?k6 ?k7 ?k8 ?k9 ?kB ?_ ?c2 ?c3 ?c4 ?c5; (case X => assumption); (case T => assumption); (case k6 => k_is); (case k7 => k_is); (case k8 => (dsimp only [AA]; (first | (law_clear; lia) | omega))); (case k9 => exact BindsTo.of_eq rfl); (case c5 => decide); (case kB => exact locs rfl); (case c2 => exact rfl); (case c3 => exact rfl); (case c4 => exact rfl))
  intro L h₁ F
  have N : News s.heap L h₁ [] := News.nil
  refine wpAny_execs_cons ?_
  repeat walk1
  refine ⟨?_⟩
  refine For_pure ?_ (by intro _; rfl)
  repeat walk1
  rename Fr _ _ _ _ => F5
  refine bytes_abs F5 fun h6 I hit0 hIs hIL hk6 => ?_
  refine ⟨fun n s' => ∃ (i : Nat) (h' : Heap) (tk : Nat) (m : Str → Option Value) (c : Int) (tc : Tok), s' = { s with heap := h', toks := tk } ∧ i ≤ b.size ∧ n = b.size - i ∧ KBw.IsBytesIter h' I b t i ∧
    Fr s.heap L h' (fun y => if y = Str.ofString "count" then some (.int c tc) else if y = Str.ofString "b" then some (.int k u) else m y) ∧ c = (((b.toList.take i).count k.toNat.toUInt8 : Nat) : Int), b.size,
    ⟨0, h6, _, _, 0, _, rfl, Nat.zero_le _, rfl, hit0, fr_name (Str.ofString "count") _ (fr_name (Str.ofString "b") (.int k u) (F5.keeps fun b o q => (hk6 b o q).1) rfl) rfl, by simp⟩, ?_⟩
  clear F5
  rintro n s' htk ⟨i, h', tk, m, c, tc, rfl, hi, rfl, hit, F, hc⟩ K hK Q' hQ'
  dsimp only at htk
  by_cases hin : i = b.size
  · subst hin
    refine KBw.next_end rfl hit (by simp) fun h2 he2 => ?_
    have F2 : Fr s.heap L h2 _ := ⟨F.ns.at' fun o q => he2 L o (Ne.symm hIL) q, fun b o q => he2 b o (fun r => by rw [r, hIs] at q; cases q) (F.keep b o q), F.above⟩
    have N2 : News s.heap L h2 [] := News.nil
    refine wpAny_execs_nil ?_
    refine hQ' _ _ ?_
    clear F
    dsimp only
    k_steps
    rename Fr _ _ _ _ => F9
    refine h _ _ _ _ F9.keep ?_
    have : b.toList.take b.size = b.toList := List.take_of_length_le (by simp)
    rw [hc, this]
  · have hlt : i < b.size := Nat.lt_of_le_of_ne hi hin
    clear hin
    have hv : b[i]? = some b[i] := Array.getElem?_eq_getElem hlt
    have hc1 : ((b.toList.take (i + 1)).count k.toNat.toUInt8 : Int) = (b.toList.take i).count k.toNat.toUInt8 + (if b[i] = k.toNat.toUInt8 then 1 else 0) := by
      rw [List.take_add_one, List.getElem?_eq_getElem (by simpa using hlt), List.count_append]
      simp only [Option.toList_some, Array.getElem_toList, List.count_singleton, beq_iff_eq]
      split <;> simp
    generalize b[i] = x at *
    refine KBw.next_item hit hv fun h2 hit2 hs2 => ?_
    replace hs2 : Heap.SameBut I h' h2 := hs2
    obtain ⟨oi, hoi, hoic, hoid⟩ := id hit2
    have hk2 : ∀ b o, b ≠ I → h'.get? b = some o → h2.get? b = some o := fun b o hb q => hs2.extBut b o hb q
    have F2 : Fr s.heap L h2 _ := ⟨F.ns.at' fun o q => hk2 L o (Ne.symm hIL) q, fun b o q => hk2 b o (fun r => by rw [r, hIs] at q; cases q) (F.keep b o q), F.above⟩
    have N2 : News s.heap L h2 [(I, oi)] := fun p hp => by
      rw [List.mem_singleton.mp hp]
      exact ⟨hoi, hIL, hIs⟩
    have hcl : x.toNat < 256 := x.toNat_lt
    have hce : (x.toNat : Int) = k ↔ x = k.toNat.toUInt8 := byte_eq hk0 hk1
    clear F
    refine wpAny_pure ?_
    dsimp only
    k_steps
    all_goals
      rename Fr _ _ _ _ => F3
      rename News _ _ _ _ => N3
      refine ⟨hK (b.size - (i + 1)) _ (Nat.sub_succ_lt_self _ _ hlt) ⟨i + 1, _, _, _, _, _, rfl, hlt, rfl, ⟨oi, (N3 _ (List.Mem.head _)).1, hoic, hoid⟩, fr_name (Str.ofString "count") _ (fr_name (Str.ofString "b") (.int k u) F3 rfl) rfl, ?_⟩⟩
      rw [hc1, hc]
      first
      | rw [if_pos (hce.mp (by assumption))]
      | (rw [if_neg (fun q => (by assumption : ¬ (x.toNat : Int) = k) (hce.mpr q))]; (first | (law_clear; lia) | omega))
      | (rw [if_neg (fun q => absurd (hce.mpr q) (by assumption))]; (first | (law_clear; lia) | omega))
end
end
section
open PySem PySem.W PyProof.Rows PySem.Calls
set_option Elab.async false
set_option maxRecDepth 100000
noncomputable def allT : List Int := [17, 257, 272, 2, 32, 512, 4097, 4112, 4352, 65537, 65552, 65792]
theorem spare_mem : ∀ k, k < 9 → spareL.getD k 0 ∈ allT := by decide
theorem fmod9 (x : Int) : (x.fmod 9).toNat < 9 := by
  have h1 := Int.fmod_nonneg_of_pos x (b := 9) (by decide)
  have h2 := Int.fmod_lt_of_pos x (b := 9) (by decide)
  omega
theorem tiesF_mem (l : List Int) : ∀ t ∈ tiesF l, t ∈ allT := by
  have gen : ∀ (l a : List Int), (∀ t ∈ a, t ∈ allT) → ∀ t ∈ l.foldl tiesStep a, t ∈ allT := by
    intro l
    induction l with
    | nil => intro a h; exact h
    | cons x l ih =>
      intro a h
      refine ih _ fun t ht => ?_
      unfold tiesStep at ht
      split at ht
      · exact h t ht
      · rcases List.mem_append.mp ht with q | q
        · exact h t q
        · rw [List.mem_singleton.mp q]
          exact spare_mem _ (fmod9 x)
  exact gen l _ (by decide)
theorem tiesF_len (l : List Int) : 3 ≤ (tiesF l).length ∧ (tiesF l).length ≤ 3 + l.length := by
  have gen : ∀ (l a : List Int), a.length ≤ (l.foldl tiesStep a).length ∧ (l.foldl tiesStep a).length ≤ a.length + l.length := by
    intro l
    induction l with
    | nil => intro a; exact ⟨Nat.le_refl _, Nat.le_refl _⟩
    | cons x l ih =>
      intro a
      have := ih (tiesStep a x)
      have h2 : a.length ≤ (tiesStep a x).length ∧ (tiesStep a x).length ≤ a.length + 1 := by
        unfold tiesStep
        split
        · exact ⟨Nat.le_refl _, Nat.le_succ _⟩
        · rw [List.length_append]; exact ⟨Nat.le_add_right _ _, Nat.le_refl _⟩
      rw [List.foldl_cons, List.length_cons]
      (first | (law_clear; lia) | omega)
  exact gen l [17, 257, 272]
theorem allT_pos : ∀ t ∈ allT, 0 ≤ t ∧ t ≤ 100000 := by decide
theorem allT_has : ∀ t ∈ allT, (66 : UInt8) ∈ apw 24 t.natAbs ∨ (67 : UInt8) ∈ apw 24 t.natAbs := by decide +kernel
noncomputable def endT (t : Int) : Int × Int := endOf (apw 24 t.natAbs)
theorem allT_end : ∀ t ∈ allT, (0 ≤ (endT t).1 ∧ (endT t).1 < 5) ∧ 0 ≤ (endT t).2 ∧ (endT t).2 < 5 := by decide +kernel
end
section
open PySem PySem.W PyProof.Rows PySem.Calls
open Sem (wp)
set_option Elab.async false
set_option maxRecDepth 100000
theorem caller_is : ∃ dp un fr gd, callerA = AA dp un fr gd ∧ dp + 100 < recursionLimit ∧ un + 200 < cLine := ⟨_, _, _, _, rfl, by decide, by decide⟩
theorem ne_loc {g h : Heap} {L r : Addr} {m : Str → Option Value} (F : Fr g L h m) (hr : h.get? r = none) : r ≠ L := by
  rintro rfl
  obtain ⟨oL, _, _, gL, _⟩ := id F.ns
  exact absurd (hr.symm.trans gL) (fun q => nomatch q)
theorem news_add {g h h' : Heap} {L r : Addr} {m : Str → Option Value} {news : List (Addr × Obj)} {o : Obj} (F : Fr g L h m) (N : News g L h' news) (hr : h.get? r = none) (gr : h'.get? r = some o) : News g L h' ((r, o) :: news) := by
  intro p hp
  rcases List.mem_cons.mp hp with rfl | hp
  · exact ⟨gr, ne_loc F hr, F.noneBack hr⟩
  · exact N p hp
theorem all_fr {g h : Heap} {L : Addr} {m : Str → Option Value} (F : Fr g L h m) : ∃ all, News g L h all ∧ ∀ b o, b ≠ L → h.get? b = some o → g.get? b = some o ∨ (b, o) ∈ all := all_ex F.keep
theorem news_add2 {g h : Heap} {L r a : Addr} {m : Str → Option Value} {o o' : Obj} (_ : Fr g L h m) (hr : r ≠ L ∧ g.get? r = none) (gr : h.get? r = some o) (ha : a ≠ L ∧ g.get? a = none) (ga : h.get? a = some o') : News g L h [(r, o), (a, o')] := by
  intro p hp
  simp only [List.mem_cons, List.not_mem_nil, or_false] at hp
  rcases hp with rfl | rfl
  · exact ⟨gr, hr⟩
  · exact ⟨ga, ha⟩
theorem paired_map {α β γ : Type} {F : β → γ → Prop} {g : α → β} {L : List α} {ys : List γ} (h : Paired (fun j y => F (g j) y) L ys) : Paired F (L.map g) ys := by
  induction h with
  | nil => exact .nil
  | cons q _ ih => exact .cons q ih
theorem paired_range {α β γ : Type} {F : β → γ → Prop} {f : α → β} {l : List α} {d : α} {ys : List γ} (h : Paired (fun j y => F (f (l.getD j d)) y) (List.range l.length) ys) : Paired F (l.map f) ys := by
  have e : l.map f = (List.range l.length).map fun j => f (l.getD j d) := by
    apply List.ext_getElem
    · simp
    · intro i h1 h2
      have hi : i < l.length := by simpa using h1
      simp [List.getD, hi]
  rw [e]
  exact paired_map h
theorem sets_bound (es : List (Int × Int)) : ∀ d ∈ setsL es, (0 ≤ d.2.1 ∧ d.2.1 ≤ d.2.2) ∧ d.2.2 ≤ es.length := by
  have gen : ∀ (es : List (Int × Int)) (ds : List (List Int × Int × Int)) (k : Int), (∀ d ∈ ds, (0 ≤ d.2.1 ∧ d.2.1 ≤ d.2.2) ∧ d.2.2 ≤ k) → ∀ d ∈ es.foldl setsStep ds, (0 ≤ d.2.1 ∧ d.2.1 ≤ d.2.2) ∧ d.2.2 ≤ k + es.length := by
    intro es
    induction es with
    | nil => intro ds k h; simpa using h
    | cons p es ih =>
      intro ds k h d hd
      have := ih (setsStep ds p) (k + 1) (fun d hd => by
        rcases List.mem_append.mp hd with q | q
        · have := h d q; omega
        · obtain ⟨d0, h0, e⟩ := List.mem_filterMap.mp q
          have h0 := h d0 h0
          unfold grownL at e
          dsimp only at e
          split at e
          · cases e
          · have e := Option.some.inj e
            rw [← e]
            dsimp only
            split <;> omega) d hd
      rw [List.length_cons]
      omega
  intro d hd
  have := gen es [([1, 2, 3, 4, 5], 0, 0)] 0 (by simp) d hd
  omega
section
variable {prog : Program} {w : World} {A : Around}
theorem pyIter_list_srcT {E : Value → Shared → Prop} {s : Shared} {ax : Addr} {items : Array Value} {Q : Value → Shared → Prop} (hh : A.handled = none) (hl : s.heap.IsList ax items)
    (h : ∀ h₂ I fp wr St, Src prog w A s.heap h₂ I fp wr items.size (fun i v => items[i]? = some v) St → (∀ (elts : List Expr) (x1 : _) (pos : Pos) (i : Nat) (T : Addr) (s : Shared) (Q : Unit → Shared → Prop) (E : Value → Shared → Prop), St i s.heap → Q () s → wpAny (model prog w) A (letOwnedTupleGo (.Tuple elts x1 pos) (.ref I) (.ref T)) Q E s) → Q (.ref I) { s with heap := h₂ }) : wpAny (model prog w) A (pyIter (.ref ax)) Q E s :=
  wpAny_pyIter_list hl (h _ _ _ _ _ (list_src hh hl) fun _ _ _ _ _ _ _ _ st hq => wpAny_letOwnedTupleGo_listiter st.1 hq)
theorem assign3 {E : Value → Shared → Prop} {s : Shared} {env : Env} {a b c : Str} {pa pb pc tp : Pos} {kk : Nat} {T : Addr} {x y z : Value} {g : Heap} {m : Str → Option Value} {news : List (Addr × Obj)} {Q : Unit → Shared → Prop} (hh : A.handled = none) (ht : s.heap.IsTuple T #[x, y, z])
    (F : Fr g env.locals s.heap m) (N : News g env.locals s.heap news) (ha : env.kindOf a = some .local) (hb : env.kindOf b = some .local) (hc : env.kindOf c = some .local) (hp : (env.scope.kind == .class || (env.scope.kind == .module && env.locals != env.globals)) = false)
    (h : ∀ h', Fr g env.locals h' (fun q => if q = c then some z else if q = b then some y else if q = a then some x else m q) → News g env.locals h' news → Q () { s with heap := h', toks := s.toks + 1 + 1 + 1 }) :
    wpAny (model prog w) A (assign (.Tuple [.Name a pa, .Name b pb, .Name c pc] kk tp) env (.ref T)) Q E s := by
  refine wpAny_assign_Tuple hh ht rfl rfl fun h₁ he₁ => ?_
  have up : ∀ c o, s.heap.get? c = some o → h₁.get? c = some o := fun c o e => he₁ c o (Nat.ne_of_lt (Heap.lt_size e)) e
  have F₁ := F.keeps up
  have N₁ := N.grown up
  show wpAny _ _ (assignInOrder [assign (.Name a pa) env, assign (.Name b pb) env, assign (.Name c pc) env] [x, y, z]) _ _ _
  refine assignInOrder_cons ?_
  refine wpAny_assign_Name (st_any F₁ N₁ ha hp fun h₂ F₂ N₂ => ?_)
  refine assignInOrder_cons ?_
  refine wpAny_assign_Name (st_any F₂ N₂ hb hp fun h₃ F₃ N₃ => ?_)
  refine assignInOrder_cons ?_
  refine wpAny_assign_Name (st_any F₃ N₃ hc hp fun h₄ F₄ N₄ => ?_)
  exact assignInOrder_nil (h h₄ F₄ N₄)
end
/-- one set's text: its ties as blanks and a tab, so many times -/
noncomputable def runL (d : List Int × Int × Int) : List Nat := (List.replicate (2 ^ (d.2.1 - 1).toNat) (List.replicate d.2.2.toNat 32 ++ [9])).flatten
theorem run_all : ∀ r, r < 7 → ∀ z, z < 7 → (Txt.mul (Txt.mul (Str.ofString " ") ((z : Nat) : Int) ++ Str.ofString "\t") (1 * 2 ^ (if ((r : Nat) : Int) - 1 > 0 then ((r : Nat) : Int) - 1 else 0).toNat)).cps.toList = runL ([], (r : Int), (z : Int)) ∧
    (Txt.mul (Str.ofString " ") ((z : Nat) : Int) ++ Str.ofString "\t").length ≤ 16 ∧ (1 * 2 ^ (if ((r : Nat) : Int) - 1 > 0 then ((r : Nat) : Int) - 1 else 0).toNat : Int) ≤ 32 := by decide +kernel
theorem run_str {sides : List Int} {rings size : Int} (h : (0 ≤ rings ∧ rings ≤ size) ∧ size ≤ 6) :
    Txt.mul (Txt.mul (Str.ofString " ") size ++ Str.ofString "\t") (1 * 2 ^ (if rings - 1 > 0 then rings - 1 else 0).toNat) = ⟨(runL (sides, rings, size)).toArray⟩ ∧
    (Txt.mul (Str.ofString " ") size ++ Str.ofString "\t").length ≤ 16 ∧ (1 * 2 ^ (if rings - 1 > 0 then rings - 1 else 0).toNat : Int) ≤ 32 ∧ (0 : Int) ≤ 1 * 2 ^ (if rings - 1 > 0 then rings - 1 else 0).toNat := by
  obtain ⟨r, rfl⟩ := Int.eq_ofNat_of_zero_le h.1.1
  obtain ⟨z, rfl⟩ := Int.eq_ofNat_of_zero_le (Int.le_trans h.1.1 h.1.2)
  have a := run_all r (by omega) z (by omega)
  refine ⟨?_, a.2.1, a.2.2, ?_⟩
  · have e : ∀ x : Str, x = ⟨x.cps.toList.toArray⟩ := fun x => by cases x; simp
    rw [e (Txt.mul _ _), a.1]
    rfl
  · rw [Int.one_mul]
    exact Int.le_of_lt (Int.pow_pos (by decide))
theorem join_cps : ∀ texts : List Str, (Txt.join (Str.ofString "") texts).cps.toList = (texts.map fun x => x.cps.toList).flatten := by
  intro texts
  have e : Txt.join (Str.ofString "") texts = Str.join (Str.ofString "") texts := StrLaws.glued_eq_join _ _
  rw [e]
  have e0 : (Str.ofString "") = ⟨#[]⟩ := by decide +kernel
  rw [e0]
  clear e e0
  induction texts with
  | nil => rfl
  | cons x r ih =>
    cases r with
    | nil => simp [Str.join]
    | cons y r =>
      show (x ++ ⟨#[]⟩ ++ Str.join ⟨#[]⟩ (y :: r)).cps.toList = _
      rw [List.map_cons, List.flatten_cons, ← ih]
      show ((x.cps ++ #[]) ++ (Str.join ⟨#[]⟩ (y :: r)).cps).toList = _
      simp
theorem strs_of {α : Type} {f : α → Str} {ds : List α} {ys : List Value} (h : Paired (fun d y => ∃ t, y = Value.str (f d) t) ds ys) : ∃ l, ys = strValues l ∧ l.map (·.1) = ds.map f := by
  induction h with
  | nil => exact ⟨[], rfl, rfl⟩
  | cons q _ ih =>
    obtain ⟨t, rfl⟩ := q
    obtain ⟨l, rfl, e⟩ := ih
    exact ⟨(_, t) :: l, rfl, by rw [List.map_cons, List.map_cons, e]⟩
theorem blanks : ∀ k, k < 6 → (Txt.mul (Str.ofString " ") ((k : Nat) : Int)).cps.toList = List.replicate k 32 := by decide +kernel
theorem runL_all : ∀ r, r < 7 → ∀ z, z < 7 → (runL ([], ((r : Nat) : Int), ((z : Nat) : Int))).length ≤ 448 := by decide +kernel
theorem runL_len {d : List Int × Int × Int} (h : (0 ≤ d.2.1 ∧ d.2.1 ≤ d.2.2) ∧ d.2.2 ≤ 6) : (runL d).length ≤ 448 := by
  obtain ⟨sd, rings, size⟩ := d
  dsimp only at h
  obtain ⟨r, rfl⟩ := Int.eq_ofNat_of_zero_le h.1.1
  obtain ⟨z, rfl⟩ := Int.eq_ofNat_of_zero_le (Int.le_trans h.1.1 h.1.2)
  exact runL_all r (by (first | (law_clear; lia) | omega)) z (by (first | (law_clear; lia) | omega))
noncomputable def textL (k : Nat) (ds : List (List Int × Int × Int)) : List Nat := ds.flatMap runL ++ List.replicate k 32
theorem textL_chars (k : Nat) (ds : List (List Int × Int × Int)) : ∀ c ∈ textL k ds, c = 32 ∨ c = 9 := by
  intro c hc
  rcases List.mem_append.mp hc with q | q
  · obtain ⟨d, _, q⟩ := List.mem_flatMap.mp q
    obtain ⟨l, hl, q⟩ := List.mem_flatten.mp q
    rw [List.eq_of_mem_replicate hl] at q
    rcases List.mem_append.mp q with q | q
    · exact .inl (List.eq_of_mem_replicate q)
    · exact .inr (List.mem_singleton.mp q)
  · exact .inl (List.eq_of_mem_replicate q)
theorem text_is {ds : List (List Int × Int × Int)} {k : Nat} (hk : k < 6) {n : Int} (hn : n = k) : (Txt.join (Str.ofString "") (ds.map fun d => (⟨(runL d).toArray⟩ : Str)) ++ Txt.mul (Str.ofString " ") n).cps.toList = textL k ds := by
  subst hn
  show ((Txt.join _ _).cps ++ (Txt.mul _ _).cps).toList = _
  rw [Array.toList_append, join_cps, blanks k hk]
  unfold textL
  rw [List.map_map, List.flatMap]
  rfl
theorem join_ok {ds : List (List Int × Int × Int)} (h : ∀ d ∈ ds, (0 ≤ d.2.1 ∧ d.2.1 ≤ d.2.2) ∧ d.2.2 ≤ 6) (hl : ds.length ≤ 64) : JoinOk (Str.ofString "") (ds.map fun d => (⟨(runL d).toArray⟩ : Str)) = true ∧
    (Txt.join (Str.ofString "") (ds.map fun d => (⟨(runL d).toArray⟩ : Str))).length ≤ 30000 := by
  have hB : ∀ y ∈ ds.map fun d => (⟨(runL d).toArray⟩ : Str), y.length ≤ 448 := fun y hy => by
    obtain ⟨d, hd, rfl⟩ := List.mem_map.mp hy
    have := runL_len (h d hd)
    simpa [Str.length] using this
  have e0 : (Str.ofString "").length = 0 := by decide +kernel
  constructor
  · unfold JoinOk
    rw [Bool.not_eq_true']
    exact StrLaws.joinFits hB (by rw [e0, List.length_map]; (first | (law_clear; lia) | omega))
  · have := StrLaws.join_length_le (Str.ofString "") (ds.map fun d => (⟨(runL d).toArray⟩ : Str))
    have h2 := StrLaws.sumLen_le _ hB
    rw [e0] at this
    rw [List.length_map] at this h2
    have e1 : Txt.join (Str.ofString "") (ds.map fun d => (⟨(runL d).toArray⟩ : Str)) = Str.join (Str.ofString "") (ds.map fun d => (⟨(runL d).toArray⟩ : Str)) := StrLaws.glued_eq_join _ _
    rw [e1]
    (first | (law_clear; lia) | omega)
theorem news_new {g h h' : Heap} {L r : Addr} {m : Str → Option Value} {news : List (Addr × Obj)} {o : Obj} (F : Fr g L h m) (hr : h.get? r = none) (gr : h'.get? r = some o) (N : News g L h' news) : News g L h' ((r, o) :: news) := news_add F N hr gr
theorem st_cellN {M : Model} {A : Around} {E : Value → Shared → Prop} {s : Shared} {g : Heap} {env : Env} {x : Str} {c : Addr} {o : Obj} {v₀ : Option Value} {v : Value} {m : Str → Option Value} {news : List (Addr × Obj)} {Q : Unit → Shared → Prop}
    (F : Fr g env.locals s.heap m) (N : News g env.locals s.heap ((c, o) :: news)) (hd : o.data = .cell v₀) (hne : ∀ p ∈ news, ∀ v, p.2.data ≠ .cell v)
    (hk : env.scope.kind = .function) (hl : env.kindOf x = some .cell) (hc : env.cells.lookup x = some c)
    (h : ∀ h' o', Fr g env.locals h' m → News g env.locals h' ((c, o') :: news) → o'.data = .cell (some v) → Q () { s with heap := h' }) : wpAny M A (storeName env x v) Q E s := by
  have nc := N _ (List.Mem.head _)
  dsimp only at nc
  refine wpAny_storeName_cell hk hl hc ⟨o, nc.1, hd⟩ fun h' hv hs => ?_
  obtain ⟨o', ho', hd'⟩ := hv
  refine h h' o' ⟨F.ns.sameBut hs (Ne.symm nc.2.1), fun b ob e => (hs.2 b (fun q => ?_)).trans (F.keep b ob e), F.above⟩ (fun p hp => ?_) hd'
  · rw [q, nc.2.2] at e; cases e
  · rcases List.mem_cons.mp hp with rfl | hp
    · exact ⟨ho', nc.2⟩
    · have np := N p (List.mem_cons_of_mem _ hp)
      refine ⟨hs.extBut _ _ (fun q => ?_) np.1, np.2⟩
      have := np.1
      rw [q, nc.1] at this
      exact hne p hp v₀ (by rw [← Option.some.inj this]; exact hd)
theorem mem_last {α : Type} {a b c d e f p : α} (h : p ∈ [f, a, b, c, d, e]) : p ∈ [a, b, c, d, e, f] := by
  simp only [List.mem_cons, List.not_mem_nil, or_false] at h ⊢
  rcases h with h | h | h | h | h | h <;> simp [h]
theorem rows_zero (most : Nat) (ts : List Int) : (0 : Int) ∈ rowsL most ts := by
  have gen : ∀ (ts acc : List Int), (0 : Int) ∈ acc → (0 : Int) ∈ ts.foldl (rowsStep most) acc := by
    intro ts
    induction ts with
    | nil => intro acc h; exact h
    | cons t ts ih => intro acc h; exact ih _ (mem_rowsStep.mpr (.inl h))
  exact gen ts _ (by simp)
theorem rows_bound {ts : List Int} (hl : ts.length ≤ 6) (hts : ∀ t ∈ ts, 0 ≤ t ∧ t ≤ 100000) : ∀ x ∈ rowsL 1 ts, 0 ≤ x ∧ x ≤ 600000 := by
  have gen : ∀ (ts acc : List Int) (k : Int), (∀ t ∈ ts, 0 ≤ t ∧ t ≤ 100000) → (∀ x ∈ acc, 0 ≤ x ∧ x ≤ k) → ∀ x ∈ ts.foldl (rowsStep 1) acc, 0 ≤ x ∧ x ≤ k + ts.length * 100000 := by
    intro ts
    induction ts with
    | nil => intro acc k _ h; simpa using h
    | cons t ts ih =>
      intro acc k ht h x hx
      have htt := ht t (List.mem_cons_self ..)
      have := ih (rowsStep 1 acc t) (k + 100000) (fun t q => ht t (List.mem_cons_of_mem _ q)) (fun x hx => by
        rcases mem_rowsStep.mp hx with q | ⟨y, hy, j, hj, rfl⟩
        · have := h x q; (first | (law_clear; lia) | omega)
        · have := h y hy
          have hj0 : j = 0 := by (first | (law_clear; lia) | omega)
          subst hj0
          simp only [Int.natCast_zero]
          (first | (law_clear; lia) | omega)) x hx
      rw [List.length_cons]
      (first | (law_clear; lia) | omega)
  intro x hx
  have := gen ts [0] 0 hts (by simp) x hx
  (first | (law_clear; lia) | omega)
theorem nodes_room {v : Array UInt8} {n : Int} (hn : n ≤ 5) (h : v.size ≤ 24) : ((List.replicate n.toNat [(65 : UInt8)]).flatten.toArray).size + v.size ≤ 16777216 := by
  simp only [List.size_toArray, List.length_flatten, List.map_replicate, List.sum_replicate_nat, List.length_singleton]
  (first | (law_clear; lia) | omega)
end
section
open PySem PySem.W PyProof.Rows PySem.Calls
open Sem (wp)
set_option Elab.async false
set_option maxRecDepth 100000
section
variable {prog : Program} {w : World} {A : Around} {E : Value → Shared → Prop} {s : Shared}
theorem max_my {a : Addr} {ks : List Int} {Q : Value → Shared → Prop} (hh : A.handled = none) (hS : SetIs (ledOf w) s.heap a ks) (hne : 0 < ks.length)
    (h : ∀ M t h' d tk, M ∈ ks → (∀ x ∈ ks, x ≤ M) → (∀ b o, s.heap.get? b = some o → h'.get? b = some o) → Q (.int M t) { s with heap := h', drawn := d, toks := tk }) :
    wpAny (model prog w) A (call (.builtin "max") [.ref a]) Q E s := by
  refine call_max_walk (pyIter_set (A := A.in1) hh hS fun h₂ d I fp St ord hp W hst hfp hk hI hlive hsz => ?_)
  refine ⟨I, fp, [I], ks.length, _, St, _, rfl, W, hst, hfp, hne, CmpOf.ints_gt (fun j => ord.getD j 0) (fun j v hv => ?_), fun v h' tk hv hk' => ?_⟩
  · obtain ⟨k, t, e, rfl⟩ := hv
    exact ⟨t, by simp [List.getD, e]⟩
  · obtain ⟨k, t, e, rfl⟩ := hv
    have hb := argBest_gt (fun j => ord.getD j 0) (ks.length - 1)
    have hlen : ord.length = ks.length := hp.length_eq
    refine h k t h' d tk (hp.mem_iff.mp (List.mem_of_getElem? e)) (fun x hx => ?_) fun b o q => hk' b o (fun r => ?_) (hk b o q)
    · obtain ⟨j, hj, rfl⟩ := List.mem_iff_getElem.mp (hp.mem_iff.mpr hx)
      have := hb.2 j (by (first | (law_clear; lia) | omega))
      have e1 : ord.getD (argBest (fun i j => decide (ord.getD i 0 > ord.getD j 0)) (ks.length - 1)) 0 = k := by
        simp only [List.getD]
        have e' := e
        simp only [List.getD] at e'
        rw [e']
        rfl
      have e2 : ord.getD j 0 = ord[j] := by simp [List.getD, hj]
      rw [← e2, ← e1]
      exact this
    · rw [List.mem_singleton.mp r, hI] at q
      cases q
end
end
section
open PySem PySem.W PyProof.Rows PySem.Calls
set_option Elab.async false
set_option maxRecDepth 100000
set_option maxHeartbeats 2000000
set_option pp.deepTerms false
set_option pp.deepTerms.threshold 4
set_option pp.proofs false
theorem lr_spec {w : World} {dp un : Nat} {fr : Option (List Env)} {gd : Option (List Code)} {Q E : Value → Shared → Prop} {s : Shared} {loose : List Str} {mean : ExcName → Option Value} {mg mb : Str → Option Value}
  (g : Heap) (hg : ∀ b o, g.get? b = some o → s.heap.get? b = some o) (hgz : @LE.le Nat _ g.objs.size s.heap.objs.size)
  (xo dx an ac : Addr) (x : Str) (t k1 k2 k3 k4 k5 : Tok) (n : Int) (tn : Tok) (nt : Int) (tt : Tok) (sm : Bool) (ws : List Value) (cnt : List Int) (bb : Int) (tb : Tok) (ka kc : Nat)
  (hx : s.heap.get? xo = some (instObj 133 dx) ∧ g.get? xo = none) (hdx : s.heap.get? dx = some (wsDict w.params x t k1 k2 k3 k4 k5 n tn nt tt an sm) ∧ g.get? dx = none)
  (han : s.heap.get? an = some { cls := .type "tuple", data := .seq #[.ref ac, .int bb tb] ka } ∧ g.get? an = none) (hac : s.heap.get? ac = some { cls := .type "tuple", data := .seq (List.toArray ws) kc } ∧ g.get? ac = none) (hws : IntsAre ws cnt) (hlen : cnt.length ≤ 10000)
  (hd1 : dp + 10 < recursionLimit) (hu : un + 50 < cLine) (X : (hd.heap_39 w.params).In g) (T : Top hd.view_39 loose mean mg mb g)
  (hpost : ∀ h' tk v t, (∀ b o, s.heap.get? b = some o → h'.get? b = some o) → v = (if bb > (cnt.length : Int) - 1 then bb else (cnt.length : Int) - 1) → Q (.int v t) { s with heap := h', toks := tk }) :
  wpAny (model PySem.Challenge.rw_wn0101_01.row.prog w) (AA dp un fr gd) (call (.ref 95) [.ref xo]) Q E s := by
  revert X
  k_with_none
  w_top off
  k_fill
  intro X
  refine' enter (X.keeps hg) (T.keeps hg) ?k6 ?k7 ?k8 ?k9 ?kB ?_ ?c2 ?c3 ?c4 ?c5
  case k6 => k_is
  case k7 => k_is
  case k8 => (dsimp only [AA]; (first | (law_clear; lia) | omega))
  case k9 => first | exact BindsTo.of_eq rfl | exact binds_K (by k_in) rfl (by k_is) rfl rfl rfl
  case c5 => decide
  case kB => exact locs rfl
  case c2 => exact rfl
  case c3 => exact rfl
  case c4 => exact rfl
  intro L h₁ F0
  have F : Fr g L h₁ _ := ⟨F0.ns, fun b o e => F0.keep b o (hg b o e), Nat.le_trans hgz F0.above⟩
  have apart : ∀ b o, s.heap.get? b = some o → b ≠ L := fun b o q => Nat.ne_of_lt (Nat.lt_of_lt_of_le (Heap.lt_size q) F0.above)
  have N : News g L h₁ [(xo, instObj 133 dx), (dx, wsDict w.params x t k1 k2 k3 k4 k5 n tn nt tt an sm), (an, { cls := .type "tuple", data := .seq #[.ref ac, .int bb tb] ka }), (ac, { cls := .type "tuple", data := .seq (List.toArray ws) kc })] := by
    intro p hp
    simp only [List.mem_cons, List.not_mem_nil, or_false] at hp
    rcases hp with rfl | rfl | rfl | rfl
    · exact ⟨F0.keep _ _ hx.1, apart _ _ hx.1, hx.2⟩
    · exact ⟨F0.keep _ _ hdx.1, apart _ _ hdx.1, hdx.2⟩
    · exact ⟨F0.keep _ _ han.1, apart _ _ han.1, han.2⟩
    · exact ⟨F0.keep _ _ hac.1, apart _ _ hac.1, hac.2⟩
  have hk0 := F0.keep
  clear F0
  obtain ⟨all, Nall, Hall⟩ : ∃ all, News g L h₁ all ∧ ∀ b o, b ≠ L → h₁.get? b = some o → g.get? b = some o ∨ (b, o) ∈ all := all_fr F
  have N' := N.append Nall
  simp only [List.cons_append, List.nil_append] at N'
  clear N Nall
  dsimp only
  k_steps
  rename News _ _ _ _ => N9
  have hl := hws.length
  refine len_tuple ⟨_, (N9 _ (List.Mem.tail _ (List.Mem.tail _ (List.Mem.tail _ (List.Mem.head _))))).1, rfl, _, rfl⟩ (by rw [List.size_toArray, hl]; (first | (law_clear; lia) | omega)) ?_
  rw [List.size_toArray, hl]
  dsimp only
  k_steps
  rename Fr _ _ _ _ => F9
  rename News _ _ _ _ => N9
  have hk9 := keeps_all Hall F9 N9 (fun _ q => List.Mem.tail _ (List.Mem.tail _ (List.Mem.tail _ (List.Mem.tail _ q))))
  exact hpost _ _ _ _ (fun b o q => hk9 b o (apart b o q) (hk0 b o q)) rfl
end
section
open PySem PySem.W PyProof.Rows PySem.Calls
open Sem (wp)
set_option Elab.async false
set_option maxRecDepth 100000
theorem wsRun_items (l : List Nat) : ∀ x ∈ (wsRun l).1, 0 ≤ x ∧ x ≤ l.length := by
  have gen : ∀ (l : List Nat) (st : WsSt) (k : Nat), (∀ x ∈ st.1, 0 ≤ x ∧ x ≤ k) → ∀ x ∈ (l.foldl wsStep st).1, 0 ≤ x ∧ x ≤ k + l.length := by
    intro l
    induction l with
    | nil => intro st k h; simpa using h
    | cons c l ih =>
      intro st k h x hx
      have := ih (wsStep st c) (k + 1) (by
        intro x hx
        unfold wsStep at hx
        split at hx
        · have := h x hx; omega
        · dsimp only at hx
          have hcnt : ∀ y ∈ (if st.1.length ≤ st.2.1 then st.1 ++ List.replicate (st.2.1 - st.1.length + 1) 0 else st.1), (0 : Int) ≤ y ∧ y ≤ k := by
            intro y hy
            split at hy
            · rcases List.mem_append.mp hy with q | q
              · exact h y q
              · rw [List.eq_of_mem_replicate q]; omega
            · exact h y hy
          generalize (if st.1.length ≤ st.2.1 then st.1 ++ List.replicate (st.2.1 - st.1.length + 1) 0 else st.1) = cnt at hcnt hx
          rcases List.mem_or_eq_of_mem_set hx with q | q
          · have := hcnt x q; omega
          · have : cnt.getD st.2.1 0 = 0 ∨ cnt.getD st.2.1 0 ∈ cnt := by
              by_cases hb : st.2.1 < cnt.length
              · right
                simp only [List.getD, List.getElem?_eq_getElem hb, Option.getD_some]
                exact List.getElem_mem hb
              · left
                simp [List.getD, List.getElem?_eq_none (Nat.le_of_not_lt hb)]
            rcases this with e | e
            · rw [q, e]; omega
            · have := hcnt _ e; omega) x hx
      rw [List.length_cons]
      omega
  have := gen l ([], 0, 0, 0) 0 (by simp)
  intro x hx
  have := this x hx
  omega
section
variable {prog : Program} {w : World} {A : Around} {E : Value → Shared → Prop} {s : Shared}
theorem len_my {a : Addr} {ks : List Int} {Q : Value → Shared → Prop} (hS : SetIs (ledOf w) s.heap a ks)
    (h : Q (.int ks.length (s.toks + 1)) { s with toks := s.toks + 1 + 1 }) : wpAny (model prog w) A (call (.builtin "len") [.ref a]) Q E s := by
  obtain ⟨o, es, ep, t, ho, hex, hd, _, ek, _, hsz, hf, _⟩ := hS
  have e : es.size = ks.length := by rw [← ek, List.length_map, Array.length_toList]
  have hb : scanBound = 4096 := rfl
  exact call_len_set ho hex hd hf (by (first | (law_clear; lia) | omega)) (by rw [e]; exact h)
theorem len_tupN {g : Heap} {L a : Addr} {ws : List Value} {cnt : List Int} {kc : Nat} {news : List (Addr × Obj)} {Q : Value → Shared → Prop} (N : News g L s.heap news) (hm : (a, ({ cls := .type "tuple", data := .seq (List.toArray ws) kc } : Obj)) ∈ news) (hw : IntsAre ws cnt) (hl : cnt.length ≤ 10000)
    (h : Q (.int cnt.length (s.toks + 1)) { s with toks := s.toks + 1 + 1 }) : wpAny (model prog w) A (call (.builtin "len") [.ref a]) Q E s := by
  have e := hw.length
  refine len_tuple ⟨_, (N _ hm).1, rfl, _, rfl⟩ (by rw [List.size_toArray, e]; (first | (law_clear; lia) | omega)) ?_
  rw [List.size_toArray, e]
  exact h
theorem len_listN {a : Addr} {ws : List Value} {cnt : List Int} {Q : Value → Shared → Prop} (hl : s.heap.IsList a ws.toArray) (hw : IntsAre ws cnt) (hc : cnt.length ≤ 10000)
    (h : Q (.int cnt.length (s.toks + 1)) { s with toks := s.toks + 1 + 1 }) : wpAny (model prog w) A (call (.builtin "len") [.ref a]) Q E s := by
  have e := hw.length
  refine len_list hl (by rw [List.size_toArray, e]; (first | (law_clear; lia) | omega)) ?_
  rw [List.size_toArray, e]
  exact h
theorem range_src (hh : A.handled = none) {h : Heap} (n : Nat) :
    Src prog w A h (h.push { cls := .type "range_iterator", data := .fields #[rawInt 0, rawInt (n : Int), rawInt 1] }) h.objs.size [h.objs.size] [h.objs.size] n (fun i v => ∃ t, v = .int (0 + i * 1) t) (fun i h' => IsRangeIter h' h.objs.size (0 + (i : Nat) * 1) ((n : Int) - (i : Nat)) 1) := by
  refine ⟨Walks.range hh _ 0 1 n, ?_, fun b hb => ?_, fun b o e => Heap.get?_push_of_some _ e, fun b hb => ?_, ?_, fun i h' st b hb => ?_⟩
  · have git : (h.push { cls := .type "range_iterator", data := .fields #[rawInt 0, rawInt (n : Int), rawInt 1] }).get? h.objs.size = some { cls := .type "range_iterator", data := .fields #[rawInt 0, rawInt (n : Int), rawInt 1] } := Heap.get?_push_size _ rfl
    have e1 : (0 : Int) + ((0 : Nat) : Int) * 1 = 0 := by simp
    have e2 : (n : Int) - ((0 : Nat) : Int) = n := by simp
    rw [e1, e2]
    exact git
  · rw [Heap.size_push, List.mem_singleton.mp hb]; exact Nat.lt_succ_self _
  · rw [List.mem_singleton.mp hb]; exact none_of_le (Nat.le_refl _)
  · rw [Heap.size_push]; exact Nat.le_succ _
  · rw [List.mem_singleton.mp hb]; exact ⟨_, st⟩
theorem pyIter_range_src {r : Addr} {n : Nat} {t u v : Tok} {Q : Value → Shared → Prop} (hh : A.handled = none) (hR : IsRange s.heap r 0 (n : Int) 1 t u v) (hn : n ≤ 10000)
    (h : ∀ h₂ I fp wr St, Src prog w A s.heap h₂ I fp wr n (fun i v => ∃ t, v = .int (0 + i * 1) t) St → Q (.ref I) { s with heap := h₂ }) : wpAny (model prog w) A (pyIter (.ref r)) Q E s := by
  refine wpAny_pyIter_range hR (small_one (by (first | (law_clear; lia) | omega)) (by (first | (law_clear; lia) | omega)) (by (first | (law_clear; lia) | omega)) (by (first | (law_clear; lia) | omega))) ?_
  have hrs : Builtin.Range.rangeSize 0 (n : Int) 1 = ((n : Nat) : Int) := by rw [rangeSize_nat]; (first | (law_clear; lia) | omega)
  rw [hrs]
  exact h _ _ _ _ _ (range_src hh n)
end
theorem SetIs.nodup {led : Bool} {h : Heap} {a : Addr} {ks : List Int} (x : SetIs led h a ks) : ks.Nodup := by
  obtain ⟨_, _, _, _, _, _, _, _, _, q, _⟩ := x
  exact q
end
section
open PySem PySem.W PyProof.Rows PySem.Calls
set_option Elab.async false
set_option maxRecDepth 100000
set_option maxHeartbeats 2000000
theorem post_true (script : List Int) : PySem.Challenge.rw_wn0101_01.row.claim.post [ofPy (PyData.list (List.map PyData.int script))] (.bool true) [ofPy (PyData.list (List.map PyData.int script))] = true := by
  wrow_post
theorem none_raised (script : List Int) : ∀ cls, PySem.Challenge.rw_wn0101_01.row.claim.raises [ofPy (PyData.list (List.map PyData.int script))] cls = false := raisesW_false (by wrow_none_raised)
end
section
open PySem PySem.W PyProof.Rows PySem.Calls
set_option Elab.async false
set_option maxRecDepth 100000
/-- a counts list read to the base 2 -/
noncomputable def valL : List Int → Int
  | [] => 0
  | x :: xs => x + 2 * valL xs
theorem valL_append (xs : List Int) (m : Nat) : valL (xs ++ List.replicate m 0) = valL xs := by
  induction xs with
  | nil =>
    show valL (List.replicate m 0) = 0
    induction m with
    | zero => rfl
    | succ m ih => rw [List.replicate_succ]; show 0 + 2 * valL (List.replicate m 0) = 0; rw [ih]; rfl
  | cons x xs ih => show x + 2 * valL (xs ++ _) = x + 2 * valL xs; rw [ih]
theorem valL_set : ∀ (xs : List Int) (z : Nat), z < xs.length → valL (xs.set z (xs.getD z 0 + 1)) = valL xs + 2 ^ z
  | [], z, h => absurd h (Nat.not_lt_zero _)
  | x :: xs, 0, _ => by
    show (x + 1) + 2 * valL xs = x + 2 * valL xs + 2 ^ 0
    (first | (law_clear; lia) | omega)
  | x :: xs, z + 1, h => by
    have ih := valL_set xs z (Nat.lt_of_succ_lt_succ h)
    show x + 2 * valL (xs.set z (xs.getD z 0 + 1)) = x + 2 * valL xs + 2 ^ (z + 1)
    rw [ih, Int.pow_succ]
    (first | (law_clear; lia) | omega)
theorem valL_sum : ∀ xs : List Int, ((List.range xs.length).map fun k => xs.getD k 0 * 2 ^ k).sum = valL xs := by
  have gen : ∀ (xs : List Int), ((List.range xs.length).map fun k => xs.getD k 0 * (2 : Int) ^ k).sum = valL xs := by
    intro xs
    induction xs with
    | nil => rfl
    | cons x xs ih =>
      rw [List.length_cons, List.range_succ_eq_map, List.map_cons, List.sum_cons, List.map_map]
      have e : (List.map ((fun k => (x :: xs).getD k 0 * (2 : Int) ^ k) ∘ Nat.succ) (List.range xs.length)) = (List.map (fun k => xs.getD k 0 * (2 : Int) ^ k) (List.range xs.length)).map (fun y => 2 * y) := by
        rw [List.map_map]
        refine List.map_congr_left fun k _ => ?_
        show xs.getD k 0 * (2 : Int) ^ (k + 1) = 2 * (xs.getD k 0 * 2 ^ k)
        rw [Int.pow_succ, ← Int.mul_assoc, Int.mul_comm]
      have m2 : ∀ l : List Int, (l.map fun y => 2 * y).sum = 2 * l.sum := by
        intro l
        induction l with
        | nil => rfl
        | cons y l ih => rw [List.map_cons, List.sum_cons, List.sum_cons, ih]; (first | (law_clear; lia) | omega)
      rw [e, m2, ih]
      show x * 2 ^ 0 + 2 * valL xs = x + 2 * valL xs
      (first | (law_clear; lia) | omega)
  exact gen
/-- what a run of blanks and a tab does to the counts -/
noncomputable def incL (cnt : List Int) (z : Nat) : List Int :=
  let c := if cnt.length ≤ z then cnt ++ List.replicate (z - cnt.length + 1) 0 else cnt
  c.set z (c.getD z 0 + 1)
theorem incL_len (cnt : List Int) (z : Nat) : (incL cnt z).length = max cnt.length (z + 1) := by
  unfold incL
  dsimp only
  rw [List.length_set]
  split
  · rename_i h
    rw [List.length_append, List.length_replicate, Nat.max_eq_right (Nat.le_succ_of_le h), ← Nat.add_assoc, Nat.add_sub_cancel' h]
  · rename_i h
    exact (Nat.max_eq_left (Nat.lt_of_not_le h)).symm
theorem incL_val (cnt : List Int) (z : Nat) : valL (incL cnt z) = valL cnt + 2 ^ z := by
  unfold incL
  dsimp only
  split
  · rw [valL_set _ _ (by rw [List.length_append, List.length_replicate]; omega), valL_append]
  · rw [valL_set _ _ (by omega)]
theorem blank_run (z : Nat) : ∀ (cnt : List Int) (b n nt : Nat), (List.replicate z 32).foldl wsStep (cnt, b, n, nt) = (cnt, b + z, n + z, nt) := by
  induction z with
  | zero => intro cnt b n nt; rfl
  | succ z ih =>
    intro cnt b n nt
    rw [List.replicate_succ, List.foldl_cons]
    have e : wsStep (cnt, b, n, nt) 32 = (cnt, b + 1, n + 1, nt) := by unfold wsStep; rw [if_pos rfl]
    rw [e, ih, Nat.add_assoc, Nat.add_assoc, Nat.add_comm 1 z]
theorem one_run (z : Nat) (cnt : List Int) (n nt : Nat) : (List.replicate z 32 ++ [9]).foldl wsStep (cnt, 0, n, nt) = (incL cnt z, 0, n + z + 1, nt + 1) := by
  rw [List.foldl_append, blank_run, List.foldl_cons, List.foldl_nil, Nat.zero_add]
  unfold wsStep incL
  rw [if_neg (by decide)]
theorem runs_of (z m : Nat) : ∀ (cnt : List Int) (n nt : Nat), ∃ cnt' n', (List.replicate (m + 1) (List.replicate z 32 ++ [9])).flatten.foldl wsStep (cnt, 0, n, nt) = (cnt', 0, n', nt + (m + 1)) ∧ valL cnt' = valL cnt + ((m + 1 : Nat) : Int) * 2 ^ z ∧ cnt'.length = max cnt.length (z + 1) := by
  induction m with
  | zero =>
    intro cnt n nt
    refine ⟨incL cnt z, n + z + 1, ?_, ?_, incL_len _ _⟩
    · rw [List.replicate_succ, List.flatten_cons, List.foldl_append, one_run]; rfl
    · rw [incL_val]; simp
  | succ m ih =>
    intro cnt n nt
    obtain ⟨c', n', h1, h2, h3⟩ := ih (incL cnt z) (n + z + 1) (nt + 1)
    refine ⟨c', n', ?_, ?_, ?_⟩
    · rw [List.replicate_succ, List.flatten_cons, List.foldl_append, one_run, h1]
      have : nt + 1 + (m + 1) = nt + (m + 1 + 1) := by (first | (law_clear; lia) | omega)
      rw [this]
    · rw [h2, incL_val]
      have : ((m + 1 + 1 : Nat) : Int) = ((m + 1 : Nat) : Int) + 1 := by (first | (law_clear; lia) | omega)
      rw [this, Int.add_mul]
      (first | (law_clear; lia) | omega)
    · rw [h3, incL_len, Nat.max_assoc, Nat.max_self]
noncomputable abbrev SetD := List Int × Int × Int
noncomputable def multD (d : SetD) : Nat := 2 ^ (d.2.1 - 1).toNat
noncomputable def sum1 (ds : List SetD) : Nat := ds.foldr (fun d a => multD d + a) 0
noncomputable def sum2 (ds : List SetD) : Nat := ds.foldr (fun d a => multD d * 2 ^ d.2.2.toNat + a) 0
noncomputable def lenD (ds : List SetD) : Nat := ds.foldr (fun d a => multD d * (d.2.2.toNat + 1) + a) 0
noncomputable def maxD (ds : List SetD) : Nat := ds.foldr (fun d a => max (d.2.2.toNat + 1) a) 0
theorem multD_pos (d : SetD) : ∃ m, multD d = m + 1 := ⟨multD d - 1, by have := Nat.two_pow_pos (d.2.1 - 1).toNat; unfold multD; omega⟩
theorem text_len (k : Nat) (ds : List SetD) : (textL k ds).length = lenD ds + k := by
  unfold textL
  rw [List.length_append, List.length_replicate]
  congr 1
  induction ds with
  | nil => rfl
  | cons d ds ih =>
    rw [List.flatMap_cons, List.length_append, ih]
    show (runL d).length + _ = multD d * (d.2.2.toNat + 1) + lenD ds
    congr 1
    unfold runL
    rw [List.length_flatten, List.map_replicate, List.sum_replicate_nat, List.length_append, List.length_replicate]
    rfl
theorem ws_ds : ∀ (ds : List SetD) (cnt : List Int) (n nt : Nat), ∃ cnt' n', (ds.flatMap runL).foldl wsStep (cnt, 0, n, nt) = (cnt', 0, n', nt + sum1 ds) ∧ valL cnt' = valL cnt + sum2 ds ∧ cnt'.length = max cnt.length (maxD ds)
  | [], cnt, n, nt => ⟨cnt, n, rfl, by simp [sum2], by simp [maxD]⟩
  | d :: ds, cnt, n, nt => by
    obtain ⟨m, hm⟩ := multD_pos d
    obtain ⟨c1, n1, h1, h2, h3⟩ := runs_of d.2.2.toNat m cnt n nt
    obtain ⟨c2, n2, g1, g2, g3⟩ := ws_ds ds c1 n1 (nt + (m + 1))
    refine ⟨c2, n2, ?_, ?_, ?_⟩
    · rw [List.flatMap_cons, List.foldl_append]
      have e : runL d = (List.replicate (m + 1) (List.replicate d.2.2.toNat 32 ++ [9])).flatten := by
        unfold runL
        rw [← hm]
        rfl
      rw [e, h1, g1]
      show _ = (c2, 0, n2, nt + (multD d + sum1 ds))
      rw [hm, Nat.add_assoc]
    · rw [g2, h2]
      show _ = valL cnt + ((multD d * 2 ^ d.2.2.toNat + sum2 ds : Nat) : Int)
      rw [hm]
      push_cast
      rw [Int.add_assoc]
    · rw [g3, h3]
      exact Nat.max_assoc _ _ _
theorem ws_text {k : Nat} {ds : List SetD} {cnt : List Int} {bb nn nt : Nat} (h : wsRun (textL k ds) = (cnt, bb, nn, nt)) : bb = k ∧ nt = sum1 ds ∧ valL cnt = sum2 ds ∧ cnt.length = maxD ds := by
  obtain ⟨c, n, h1, h2, h3⟩ := ws_ds ds [] 0 0
  unfold wsRun textL at h
  rw [List.foldl_append, h1, blank_run] at h
  simp only [Prod.mk.injEq] at h
  obtain ⟨rfl, rfl, _, rfl⟩ := h
  refine ⟨by (first | (law_clear; lia) | omega), by (first | (law_clear; lia) | omega), by rw [h2]; simp [valL], by rw [h3]; simp⟩
end
section
open PySem PySem.W PyProof.Rows PySem.Calls
set_option Elab.async false
set_option maxRecDepth 100000
/-- two rising lists as one -/
noncomputable def mgIn (x : Nat) (k : List Nat → List Nat) : List Nat → List Nat
  | [] => x :: k []
  | y :: ys => bif Nat.blt x y then x :: k (y :: ys) else bif Nat.beq x y then x :: k ys else y :: mgIn x k ys
noncomputable def mgL : List Nat → List Nat → List Nat
  | [], ys => ys
  | x :: xs, ys => mgIn x (mgL xs) ys
noncomputable def shL (t : Nat) : List Nat → List Nat
  | [] => []
  | x :: xs => Nat.add x t :: shL t xs
noncomputable def rsL (most : Nat) (A : List Nat) (t : Nat) : List Nat := match most with
  | 1 => mgL A (shL t A)
  | _ => mgL (mgL A (shL t A)) (shL (Nat.add t t) A)
noncomputable abbrev Up (A : List Nat) : Prop := A.Pairwise (· < ·)
theorem mgIn_nil (x : Nat) (k : List Nat → List Nat) : mgIn x k [] = x :: k [] := rfl
theorem mgIn_cons (x : Nat) (k : List Nat → List Nat) (y : Nat) (ys : List Nat) : mgIn x k (y :: ys) = if x < y then x :: k (y :: ys) else if x = y then x :: k ys else y :: mgIn x k ys := by
  show (bif Nat.blt x y then _ else bif Nat.beq x y then _ else _) = _
  by_cases h : x < y
  · have e : Nat.blt x y = true := by simpa [Nat.blt_eq] using h
    rw [e, if_pos h]; rfl
  · have e : Nat.blt x y = false := by
      cases q : Nat.blt x y with
      | false => rfl
      | true => exact absurd (Nat.blt_eq.mp q) h
    rw [e, if_neg h]
    by_cases g : x = y
    · subst g
      have e2 : Nat.beq x x = true := Nat.beq_refl x
      rw [e2, if_pos rfl]; rfl
    · have e2 : Nat.beq x y = false := by
        cases q : Nat.beq x y with
        | false => rfl
        | true => exact absurd (Nat.eq_of_beq_eq_true q) g
      rw [e2, if_neg g]; rfl
theorem mg_mem : ∀ (xs ys : List Nat) (z : Nat), z ∈ mgL xs ys ↔ z ∈ xs ∨ z ∈ ys := by
  intro xs
  induction xs with
  | nil => intro ys z; simp [mgL]
  | cons x xs ih =>
    intro ys z
    show z ∈ mgIn x (mgL xs) ys ↔ _
    induction ys with
    | nil => rw [mgIn_nil, List.mem_cons, ih]; simp
    | cons y ys ihy =>
      rw [mgIn_cons]
      split
      · rw [List.mem_cons, ih, List.mem_cons]; simp only [List.mem_cons, or_assoc]
      · split
        · rename_i _ e
          subst e
          rw [List.mem_cons, ih]
          simp only [List.mem_cons]
          constructor
          · rintro (h | h | h)
            · exact .inl (.inl h)
            · exact .inl (.inr h)
            · exact .inr (.inr h)
          · rintro ((h | h) | (h | h))
            · exact .inl h
            · exact .inr (.inl h)
            · exact .inl h
            · exact .inr (.inr h)
        · rw [List.mem_cons, ihy]
          simp only [List.mem_cons]
          constructor
          · rintro (h | (h | h) | h)
            · exact .inr (.inl h)
            · exact .inl (.inl h)
            · exact .inl (.inr h)
            · exact .inr (.inr h)
          · rintro ((h | h) | (h | h))
            · exact .inr (.inl (.inl h))
            · exact .inr (.inl (.inr h))
            · exact .inl h
            · exact .inr (.inr h)
theorem mg_up : ∀ (xs ys : List Nat), Up xs → Up ys → Up (mgL xs ys) := by
  intro xs
  induction xs with
  | nil => intro ys _ h; exact h
  | cons x xs ih =>
    intro ys hx hy
    show Up (mgIn x (mgL xs) ys)
    have hx1 := List.pairwise_cons.mp hx
    induction ys with
    | nil =>
      rw [mgIn_nil]
      refine List.pairwise_cons.mpr ⟨fun z hz => ?_, ih [] hx1.2 List.Pairwise.nil⟩
      rcases (mg_mem xs [] z).mp hz with q | q
      · exact hx1.1 z q
      · cases q
    | cons y ys ihy =>
      have hy1 := List.pairwise_cons.mp hy
      rw [mgIn_cons]
      split
      · rename_i hlt
        refine List.pairwise_cons.mpr ⟨fun z hz => ?_, ih _ hx1.2 hy⟩
        rcases (mg_mem _ _ z).mp hz with q | q
        · exact hx1.1 z q
        · rcases List.mem_cons.mp q with rfl | q
          · exact hlt
          · exact Nat.lt_trans hlt (hy1.1 z q)
      · split
        · rename_i _ e
          subst e
          refine List.pairwise_cons.mpr ⟨fun z hz => ?_, ih _ hx1.2 hy1.2⟩
          rcases (mg_mem _ _ z).mp hz with q | q
          · exact hx1.1 z q
          · exact hy1.1 z q
        · rename_i h1 h2
          have hyx : y < x := by (first | (law_clear; lia) | omega)
          refine List.pairwise_cons.mpr ⟨fun z hz => ?_, ihy hy1.2⟩
          have hz : z ∈ mgL (x :: xs) ys := hz
          rcases (mg_mem _ _ z).mp hz with q | q
          · rcases List.mem_cons.mp q with rfl | q
            · exact hyx
            · exact Nat.lt_trans hyx (hx1.1 z q)
          · exact hy1.1 z q
theorem sh_mem (t : Nat) : ∀ (xs : List Nat) (z : Nat), z ∈ shL t xs ↔ ∃ x ∈ xs, z = x + t
  | [], z => by simp [shL]
  | x :: xs, z => by
    show z ∈ (x + t) :: shL t xs ↔ _
    rw [List.mem_cons, sh_mem t xs]
    simp
theorem sh_up (t : Nat) : ∀ xs : List Nat, Up xs → Up (shL t xs)
  | [], _ => List.Pairwise.nil
  | x :: xs, h => by
    have h1 := List.pairwise_cons.mp h
    refine List.pairwise_cons.mpr ⟨fun z hz => ?_, sh_up t xs h1.2⟩
    obtain ⟨y, hy, rfl⟩ := (sh_mem t xs z).mp hz
    have := h1.1 y hy
    show x + t < y + t
    (first | (law_clear; lia) | omega)
theorem rs_up (most : Nat) (A : List Nat) (t : Nat) (h : Up A) : Up (rsL most A t) := by
  unfold rsL
  split
  · exact mg_up _ _ h (sh_up _ _ h)
  · exact mg_up _ _ (mg_up _ _ h (sh_up _ _ h)) (sh_up _ _ h)
/-- the rows as a rising list -/
noncomputable def rowsN (most : Nat) (T : List Int) : List Nat := T.foldl (fun A t => rsL most A t.toNat) [0]
noncomputable def Same (xs : List Int) (A : List Nat) : Prop := ∀ x, x ∈ xs ↔ ∃ n ∈ A, x = (n : Int)
theorem same_step {most : Nat} (hm : most = 1 ∨ most = 2) {xs : List Int} {A : List Nat} {t : Int} (ht : 0 ≤ t) (h : Same xs A) : Same (rowsStep most xs t) (rsL most A t.toNat) := by
  intro x
  rw [mem_rowsStep]
  have hk : (∃ k ∈ xs, ∃ j : Nat, j < most ∧ x = k + (1 + (j : Int)) * t) ↔ ∃ n ∈ A, ∃ j : Nat, j < most ∧ x = n + (1 + (j : Int)) * t := by
    constructor
    · rintro ⟨k, hk, j, hj, e⟩
      obtain ⟨n, hn, rfl⟩ := (h k).mp hk
      exact ⟨n, hn, j, hj, e⟩
    · rintro ⟨n, hn, j, hj, e⟩
      exact ⟨n, (h n).mpr ⟨n, hn, rfl⟩, j, hj, e⟩
  rw [hk, h x]
  rcases hm with rfl | rfl
  · show _ ↔ ∃ n ∈ mgL A (shL t.toNat A), x = (n : Int)
    constructor
    · rintro (⟨n, hn, e⟩ | ⟨n, hn, j, hj, e⟩)
      · exact ⟨n, (mg_mem _ _ _).mpr (.inl hn), e⟩
      · have hj0 : j = 0 := by (first | (law_clear; lia) | omega)
        subst hj0
        refine ⟨n + t.toNat, (mg_mem _ _ _).mpr (.inr ((sh_mem _ _ _).mpr ⟨n, hn, rfl⟩)), ?_⟩
        rw [e]
        simp only [Int.natCast_zero, Int.add_zero, Int.one_mul]
        (first | (law_clear; lia) | omega)
    · rintro ⟨n, hn, e⟩
      rcases (mg_mem _ _ _).mp hn with q | q
      · exact .inl ⟨n, q, e⟩
      · obtain ⟨y, hy, rfl⟩ := (sh_mem _ _ _).mp q
        refine .inr ⟨y, hy, 0, Nat.one_pos, ?_⟩
        rw [e]
        simp only [Int.natCast_zero, Int.add_zero, Int.one_mul]
        (first | (law_clear; lia) | omega)
  · show _ ↔ ∃ n ∈ mgL (mgL A (shL t.toNat A)) (shL (t.toNat + t.toNat) A), x = (n : Int)
    constructor
    · rintro (⟨n, hn, e⟩ | ⟨n, hn, j, hj, e⟩)
      · exact ⟨n, (mg_mem _ _ _).mpr (.inl ((mg_mem _ _ _).mpr (.inl hn))), e⟩
      · have hj0 : j = 0 ∨ j = 1 := by (first | (law_clear; lia) | omega)
        rcases hj0 with rfl | rfl
        · refine ⟨n + t.toNat, (mg_mem _ _ _).mpr (.inl ((mg_mem _ _ _).mpr (.inr ((sh_mem _ _ _).mpr ⟨n, hn, rfl⟩)))), ?_⟩
          rw [e]
          simp only [Int.natCast_zero, Int.add_zero, Int.one_mul]
          (first | (law_clear; lia) | omega)
        · refine ⟨n + (t.toNat + t.toNat), (mg_mem _ _ _).mpr (.inr ((sh_mem _ _ _).mpr ⟨n, hn, rfl⟩)), ?_⟩
          rw [e]
          (first | (law_clear; lia) | omega)
    · rintro ⟨n, hn, e⟩
      rcases (mg_mem _ _ _).mp hn with q | q
      · rcases (mg_mem _ _ _).mp q with q | q
        · exact .inl ⟨n, q, e⟩
        · obtain ⟨y, hy, rfl⟩ := (sh_mem _ _ _).mp q
          refine .inr ⟨y, hy, 0, by decide, ?_⟩
          rw [e]
          simp only [Int.natCast_zero, Int.add_zero, Int.one_mul]
          (first | (law_clear; lia) | omega)
      · obtain ⟨y, hy, rfl⟩ := (sh_mem _ _ _).mp q
        refine .inr ⟨y, hy, 1, by decide, ?_⟩
        rw [e]
        (first | (law_clear; lia) | omega)
theorem same_rows {most : Nat} (hm : most = 1 ∨ most = 2) {T : List Int} (hT : ∀ t ∈ T, 0 ≤ t) : Same (rowsL most T) (rowsN most T) ∧ Up (rowsN most T) := by
  have gen : ∀ (T : List Int) (xs : List Int) (A : List Nat), (∀ t ∈ T, 0 ≤ t) → Same xs A → Up A → Same (T.foldl (rowsStep most) xs) (T.foldl (fun A t => rsL most A t.toNat) A) ∧ Up (T.foldl (fun A t => rsL most A t.toNat) A) := by
    intro T
    induction T with
    | nil => intro xs A _ h u; exact ⟨h, u⟩
    | cons t T ih =>
      intro xs A hT h u
      exact ih _ _ (fun t q => hT t (List.mem_cons_of_mem _ q)) (same_step hm (hT t (List.mem_cons_self ..)) h) (rs_up _ _ _ u)
  exact gen T [0] [0] hT (by intro x; simp) (by simp)
/-- how many rows a set of ints with these elements has -/
theorem count_rows {most : Nat} (hm : most = 1 ∨ most = 2) {T : List Int} (hT : ∀ t ∈ T, 0 ≤ t) {ks : List Int} (hk : ks.Nodup) (hx : ∀ x, x ∈ ks ↔ x ∈ rowsL most T) : ks.length = (rowsN most T).length := by
  obtain ⟨hs, hu⟩ := same_rows hm hT
  have hn : ((rowsN most T).map fun (n : Nat) => (n : Int)).Nodup := by
    rw [List.Nodup, List.pairwise_map]
    exact hu.imp fun h e => by (first | (law_clear; lia) | omega)
  have hp : ks.Perm ((rowsN most T).map fun (n : Nat) => (n : Int)) := (List.perm_ext_iff_of_nodup hk hn).mpr fun x => by
    rw [hx x, hs x, List.mem_map]
    constructor
    · rintro ⟨n, hn, rfl⟩; exact ⟨n, hn, rfl⟩
    · rintro ⟨n, hn, rfl⟩; exact ⟨n, hn, rfl⟩
  rw [hp.length_eq, List.length_map]
/-- the order of the ties is nothing to the rows -/
theorem rows_perm {most : Nat} {T T' : List Int} (h : T.Perm T') : ∀ (xs ys : List Int), (∀ x, x ∈ xs ↔ x ∈ ys) → ∀ x, x ∈ T.foldl (rowsStep most) xs ↔ x ∈ T'.foldl (rowsStep most) ys := by
  have cong : ∀ (t : Int) (xs ys : List Int), (∀ x, x ∈ xs ↔ x ∈ ys) → ∀ x, x ∈ rowsStep most xs t ↔ x ∈ rowsStep most ys t := by
    intro t xs ys h x
    rw [mem_rowsStep, mem_rowsStep, h x]
    simp only [h]
  induction h with
  | nil => intro xs ys h; exact h
  | cons t _ ih => intro xs ys h; exact ih _ _ (cong t _ _ h)
  | swap s t T =>
    intro xs ys h
    have half : ∀ (s t : Int) (xs : List Int) (x : Int), x ∈ rowsStep most (rowsStep most xs t) s → x ∈ rowsStep most (rowsStep most xs s) t := by
      intro s t xs x hx
      rcases mem_rowsStep.mp hx with q | ⟨k, hk, j, hj, e⟩
      · rcases mem_rowsStep.mp q with q | ⟨k, hk, j, hj, e⟩
        · exact mem_rowsStep.mpr (.inl (mem_rowsStep.mpr (.inl q)))
        · exact mem_rowsStep.mpr (.inr ⟨k, mem_rowsStep.mpr (.inl hk), j, hj, e⟩)
      · rcases mem_rowsStep.mp hk with q | ⟨k', hk', j', hj', e'⟩
        · exact mem_rowsStep.mpr (.inl (mem_rowsStep.mpr (.inr ⟨k, q, j, hj, e⟩)))
        · refine mem_rowsStep.mpr (.inr ⟨k' + (1 + (j : Int)) * s, mem_rowsStep.mpr (.inr ⟨k', hk', j, hj, rfl⟩), j', hj', ?_⟩)
          rw [e, e']
          (first | (law_clear; lia) | omega)
    have main : ∀ (T : List Int) (xs ys : List Int), (∀ x, x ∈ xs ↔ x ∈ ys) → ∀ x, x ∈ T.foldl (rowsStep most) xs ↔ x ∈ T.foldl (rowsStep most) ys := by
      intro T
      induction T with
      | nil => intro xs ys h; exact h
      | cons t T ih => intro xs ys h; exact ih _ _ (cong t _ _ h)
    refine main T _ _ fun x => ?_
    rw [cong s _ _ (cong t _ _ h) x]
    exact ⟨half s t ys x, half t s ys x⟩
  | trans _ _ ih1 ih2 =>
    intro xs ys h x
    rw [ih1 xs xs (fun _ => Iff.rfl) x, ih2 xs ys h x]
/-- the greatest row: every tie taken -/
theorem rows_top {T : List Int} (hT : ∀ t ∈ T, 0 ≤ t) : T.sum ∈ rowsL 1 T ∧ ∀ x ∈ rowsL 1 T, x ≤ T.sum := by
  have gen : ∀ (T : List Int) (xs : List Int) (m : Int), (∀ t ∈ T, 0 ≤ t) → m ∈ xs → (∀ x ∈ xs, x ≤ m) → m + T.sum ∈ T.foldl (rowsStep 1) xs ∧ ∀ x ∈ T.foldl (rowsStep 1) xs, x ≤ m + T.sum := by
    intro T
    induction T with
    | nil => intro xs m _ h1 h2; simpa using ⟨h1, h2⟩
    | cons t T ih =>
      intro xs m hT h1 h2
      have ht := hT t (List.mem_cons_self ..)
      have := ih (rowsStep 1 xs t) (m + t) (fun t q => hT t (List.mem_cons_of_mem _ q)) (mem_rowsStep.mpr (.inr ⟨m, h1, 0, Nat.one_pos, by simp⟩)) (fun x hx => by
        rcases mem_rowsStep.mp hx with q | ⟨k, hk, j, hj, rfl⟩
        · have := h2 x q; (first | (law_clear; lia) | omega)
        · have := h2 k hk
          have hj0 : j = 0 := by (first | (law_clear; lia) | omega)
          subst hj0
          simp only [Int.natCast_zero, Int.add_zero, Int.one_mul]
          (first | (law_clear; lia) | omega))
      rw [List.sum_cons, ← Int.add_assoc]
      exact this
  have := gen T [0] 0 hT (by simp) (by simp)
  simpa [rowsL] using this
end
section
open PySem PySem.W PyProof.Rows PySem.Calls
set_option Elab.async false
set_option maxRecDepth 100000
noncomputable abbrev StT := List Int × List SetD
noncomputable def stp (s : StT) (r : Nat) : StT := if spareL.getD r 0 ∈ s.1 then s else (s.1 ++ [spareL.getD r 0], setsStep s.2 (endT (spareL.getD r 0)))
noncomputable def st0 : StT := ([17, 257, 272], setsL ([17, 257, 272].map endT))
noncomputable def stA (a b c : Nat) : StT := stp (stp (stp st0 a) b) c
noncomputable def nodesOf (M : Int) : Int := 5 - (((List.replicate (5 - ((apw 24 M.natAbs).size : Int)).toNat [(65 : UInt8)]).flatten.toArray ++ apw 24 M.natAbs).toList.count 65 : Nat)
noncomputable def condS (T : List Int) (ds : List SetD) : Bool :=
  decide ((if ((T.length - 1 : Nat) : Int) > (maxD ds : Int) - 1 then ((T.length - 1 : Nat) : Int) else (maxD ds : Int) - 1) = if (T.length : Int) - 1 > nodesOf T.sum then (T.length : Int) - 1 else nodesOf T.sum) && decide (lenD ds + (T.length - 1) ≤ 1000)
noncomputable def sumS (s : StT) : Nat × Nat := if condS s.1 s.2 = true then (sum1 s.2, sum2 s.2) else (0, 0)
noncomputable def r9 : List Nat := [0, 1, 2, 3, 4, 5, 6, 7, 8]
noncomputable def SA (a : Nat) : List (List (Nat × Nat)) := r9.map fun b => r9.map fun c => sumS (stA a b c)
noncomputable def RB (i j k : Nat) : Nat × Nat := ((rowsN 1 (stA i j k).1).length, (rowsN 2 (stA i j k).1).length)
noncomputable def TB0 : List (List (Nat × Nat)) := [[(15, 65), (28, 143), (28, 143), (30, 195), (30, 195), (30, 195), (30, 195), (30, 195), (30, 195)], [(28, 143), (28, 143), (51, 293), (56, 429), (56, 429), (56, 429), (56, 429), (56, 429), (56, 429)], [(28, 143), (51, 293), (28, 143), (56, 429), (56, 429), (56, 429), (56, 429), (56, 429), (56, 429)], [(30, 195), (56, 429), (56, 429), (30, 195), (54, 425), (54, 425), (60, 585), (60, 585), (60, 585)], [(30, 195), (56, 429), (56, 429), (54, 425), (30, 195), (56, 457), (60, 585), (60, 585), (60, 585)], [(30, 195), (56, 429), (56, 429), (54, 425), (56, 457), (30, 195), (60, 585), (60, 585), (60, 585)], [(30, 195), (56, 429), (56, 429), (60, 585), (60, 585), (60, 585), (30, 195), (54, 425), (54, 425)], [(30, 195), (56, 429), (56, 429), (60, 585), (60, 585), (60, 585), (54, 425), (30, 195), (56, 457)], [(30, 195), (56, 429), (56, 429), (60, 585), (60, 585), (60, 585), (54, 425), (56, 457), (30, 195)]]
noncomputable def TB1 : List (List (Nat × Nat)) := [[(28, 143), (28, 143), (51, 293), (56, 429), (56, 429), (56, 429), (56, 429), (56, 429), (56, 429)], [(28, 143), (15, 65), (28, 143), (30, 195), (30, 195), (30, 195), (30, 195), (30, 195), (30, 195)], [(51, 293), (28, 143), (28, 143), (56, 429), (56, 429), (56, 429), (56, 429), (56, 429), (56, 429)], [(56, 429), (30, 195), (56, 429), (30, 195), (54, 425), (56, 457), (60, 585), (60, 585), (60, 585)], [(56, 429), (30, 195), (56, 429), (54, 425), (30, 195), (54, 425), (60, 585), (60, 585), (60, 585)], [(56, 429), (30, 195), (56, 429), (56, 457), (54, 425), (30, 195), (60, 585), (60, 585), (60, 585)], [(56, 429), (30, 195), (56, 429), (60, 585), (60, 585), (60, 585), (30, 195), (54, 425), (56, 457)], [(56, 429), (30, 195), (56, 429), (60, 585), (60, 585), (60, 585), (54, 425), (30, 195), (54, 425)], [(56, 429), (30, 195), (56, 429), (60, 585), (60, 585), (60, 585), (56, 457), (54, 425), (30, 195)]]
noncomputable def TB2 : List (List (Nat × Nat)) := [[(28, 143), (51, 293), (28, 143), (56, 429), (56, 429), (56, 429), (56, 429), (56, 429), (56, 429)], [(51, 293), (28, 143), (28, 143), (56, 429), (56, 429), (56, 429), (56, 429), (56, 429), (56, 429)], [(28, 143), (28, 143), (15, 65), (30, 195), (30, 195), (30, 195), (30, 195), (30, 195), (30, 195)], [(56, 429), (56, 429), (30, 195), (30, 195), (56, 457), (54, 425), (60, 585), (60, 585), (60, 585)], [(56, 429), (56, 429), (30, 195), (56, 457), (30, 195), (54, 425), (60, 585), (60, 585), (60, 585)], [(56, 429), (56, 429), (30, 195), (54, 425), (54, 425), (30, 195), (60, 585), (60, 585), (60, 585)], [(56, 429), (56, 429), (30, 195), (60, 585), (60, 585), (60, 585), (30, 195), (56, 457), (54, 425)], [(56, 429), (56, 429), (30, 195), (60, 585), (60, 585), (60, 585), (56, 457), (30, 195), (54, 425)], [(56, 429), (56, 429), (30, 195), (60, 585), (60, 585), (60, 585), (54, 425), (54, 425), (30, 195)]]
noncomputable def TB3 : List (List (Nat × Nat)) := [[(30, 195), (56, 429), (56, 429), (30, 195), (54, 425), (54, 425), (60, 585), (60, 585), (60, 585)], [(56, 429), (30, 195), (56, 429), (30, 195), (54, 425), (56, 457), (60, 585), (60, 585), (60, 585)], [(56, 429), (56, 429), (30, 195), (30, 195), (56, 457), (54, 425), (60, 585), (60, 585), (60, 585)], [(30, 195), (30, 195), (30, 195), (16, 81), (30, 195), (30, 195), (32, 243), (32, 243), (32, 243)], [(54, 425), (54, 425), (56, 457), (30, 195), (30, 195), (54, 425), (60, 585), (60, 585), (60, 585)], [(54, 425), (56, 457), (54, 425), (30, 195), (54, 425), (30, 195), (60, 585), (60, 585), (60, 585)], [(60, 585), (60, 585), (60, 585), (32, 243), (60, 585), (60, 585), (32, 243), (60, 585), (60, 585)], [(60, 585), (60, 585), (60, 585), (32, 243), (60, 585), (60, 585), (60, 585), (32, 243), (60, 585)], [(60, 585), (60, 585), (60, 585), (32, 243), (60, 585), (60, 585), (60, 585), (60, 585), (32, 243)]]
noncomputable def TB4 : List (List (Nat × Nat)) := [[(30, 195), (56, 429), (56, 429), (54, 425), (30, 195), (56, 457), (60, 585), (60, 585), (60, 585)], [(56, 429), (30, 195), (56, 429), (54, 425), (30, 195), (54, 425), (60, 585), (60, 585), (60, 585)], [(56, 429), (56, 429), (30, 195), (56, 457), (30, 195), (54, 425), (60, 585), (60, 585), (60, 585)], [(54, 425), (54, 425), (56, 457), (30, 195), (30, 195), (54, 425), (60, 585), (60, 585), (60, 585)], [(30, 195), (30, 195), (30, 195), (30, 195), (16, 81), (30, 195), (32, 243), (32, 243), (32, 243)], [(56, 457), (54, 425), (54, 425), (54, 425), (30, 195), (30, 195), (60, 585), (60, 585), (60, 585)], [(60, 585), (60, 585), (60, 585), (60, 585), (32, 243), (60, 585), (32, 243), (60, 585), (60, 585)], [(60, 585), (60, 585), (60, 585), (60, 585), (32, 243), (60, 585), (60, 585), (32, 243), (60, 585)], [(60, 585), (60, 585), (60, 585), (60, 585), (32, 243), (60, 585), (60, 585), (60, 585), (32, 243)]]
noncomputable def TB5 : List (List (Nat × Nat)) := [[(30, 195), (56, 429), (56, 429), (54, 425), (56, 457), (30, 195), (60, 585), (60, 585), (60, 585)], [(56, 429), (30, 195), (56, 429), (56, 457), (54, 425), (30, 195), (60, 585), (60, 585), (60, 585)], [(56, 429), (56, 429), (30, 195), (54, 425), (54, 425), (30, 195), (60, 585), (60, 585), (60, 585)], [(54, 425), (56, 457), (54, 425), (30, 195), (54, 425), (30, 195), (60, 585), (60, 585), (60, 585)], [(56, 457), (54, 425), (54, 425), (54, 425), (30, 195), (30, 195), (60, 585), (60, 585), (60, 585)], [(30, 195), (30, 195), (30, 195), (30, 195), (30, 195), (16, 81), (32, 243), (32, 243), (32, 243)], [(60, 585), (60, 585), (60, 585), (60, 585), (60, 585), (32, 243), (32, 243), (60, 585), (60, 585)], [(60, 585), (60, 585), (60, 585), (60, 585), (60, 585), (32, 243), (60, 585), (32, 243), (60, 585)], [(60, 585), (60, 585), (60, 585), (60, 585), (60, 585), (32, 243), (60, 585), (60, 585), (32, 243)]]
noncomputable def TB6 : List (List (Nat × Nat)) := [[(30, 195), (56, 429), (56, 429), (60, 585), (60, 585), (60, 585), (30, 195), (54, 425), (54, 425)], [(56, 429), (30, 195), (56, 429), (60, 585), (60, 585), (60, 585), (30, 195), (54, 425), (56, 457)], [(56, 429), (56, 429), (30, 195), (60, 585), (60, 585), (60, 585), (30, 195), (56, 457), (54, 425)], [(60, 585), (60, 585), (60, 585), (32, 243), (60, 585), (60, 585), (32, 243), (60, 585), (60, 585)], [(60, 585), (60, 585), (60, 585), (60, 585), (32, 243), (60, 585), (32, 243), (60, 585), (60, 585)], [(60, 585), (60, 585), (60, 585), (60, 585), (60, 585), (32, 243), (32, 243), (60, 585), (60, 585)], [(30, 195), (30, 195), (30, 195), (32, 243), (32, 243), (32, 243), (16, 81), (30, 195), (30, 195)], [(54, 425), (54, 425), (56, 457), (60, 585), (60, 585), (60, 585), (30, 195), (30, 195), (54, 425)], [(54, 425), (56, 457), (54, 425), (60, 585), (60, 585), (60, 585), (30, 195), (54, 425), (30, 195)]]
noncomputable def TB7 : List (List (Nat × Nat)) := [[(30, 195), (56, 429), (56, 429), (60, 585), (60, 585), (60, 585), (54, 425), (30, 195), (56, 457)], [(56, 429), (30, 195), (56, 429), (60, 585), (60, 585), (60, 585), (54, 425), (30, 195), (54, 425)], [(56, 429), (56, 429), (30, 195), (60, 585), (60, 585), (60, 585), (56, 457), (30, 195), (54, 425)], [(60, 585), (60, 585), (60, 585), (32, 243), (60, 585), (60, 585), (60, 585), (32, 243), (60, 585)], [(60, 585), (60, 585), (60, 585), (60, 585), (32, 243), (60, 585), (60, 585), (32, 243), (60, 585)], [(60, 585), (60, 585), (60, 585), (60, 585), (60, 585), (32, 243), (60, 585), (32, 243), (60, 585)], [(54, 425), (54, 425), (56, 457), (60, 585), (60, 585), (60, 585), (30, 195), (30, 195), (54, 425)], [(30, 195), (30, 195), (30, 195), (32, 243), (32, 243), (32, 243), (30, 195), (16, 81), (30, 195)], [(56, 457), (54, 425), (54, 425), (60, 585), (60, 585), (60, 585), (54, 425), (30, 195), (30, 195)]]
noncomputable def TB8 : List (List (Nat × Nat)) := [[(30, 195), (56, 429), (56, 429), (60, 585), (60, 585), (60, 585), (54, 425), (56, 457), (30, 195)], [(56, 429), (30, 195), (56, 429), (60, 585), (60, 585), (60, 585), (56, 457), (54, 425), (30, 195)], [(56, 429), (56, 429), (30, 195), (60, 585), (60, 585), (60, 585), (54, 425), (54, 425), (30, 195)], [(60, 585), (60, 585), (60, 585), (32, 243), (60, 585), (60, 585), (60, 585), (60, 585), (32, 243)], [(60, 585), (60, 585), (60, 585), (60, 585), (32, 243), (60, 585), (60, 585), (60, 585), (32, 243)], [(60, 585), (60, 585), (60, 585), (60, 585), (60, 585), (32, 243), (60, 585), (60, 585), (32, 243)], [(54, 425), (56, 457), (54, 425), (60, 585), (60, 585), (60, 585), (30, 195), (54, 425), (30, 195)], [(56, 457), (54, 425), (54, 425), (60, 585), (60, 585), (60, 585), (54, 425), (30, 195), (30, 195)], [(30, 195), (30, 195), (30, 195), (32, 243), (32, 243), (32, 243), (30, 195), (30, 195), (16, 81)]]
noncomputable def TB : List (List (List (Nat × Nat))) := [TB0, TB1, TB2, TB3, TB4, TB5, TB6, TB7, TB8]
noncomputable def tb (a b c : Nat) : Nat × Nat := ((TB.getD a []).getD b []).getD c (0, 0)
theorem SA_0 : SA 0 = TB0 := by decide +kernel
theorem SA_1 : SA 1 = TB1 := by decide +kernel
theorem SA_2 : SA 2 = TB2 := by decide +kernel
theorem SA_3 : SA 3 = TB3 := by decide +kernel
theorem SA_4 : SA 4 = TB4 := by decide +kernel
theorem SA_5 : SA 5 = TB5 := by decide +kernel
theorem SA_6 : SA 6 = TB6 := by decide +kernel
theorem SA_7 : SA 7 = TB7 := by decide +kernel
theorem SA_8 : SA 8 = TB8 := by decide +kernel
theorem RB_0 : (r9.all fun j => r9.all fun k => !(Nat.ble 0 j && Nat.ble j k) || decide (RB 0 j k = tb 0 j k)) = true := by decide +kernel
theorem RB_1 : (r9.all fun j => r9.all fun k => !(Nat.ble 1 j && Nat.ble j k) || decide (RB 1 j k = tb 1 j k)) = true := by decide +kernel
theorem RB_2 : (r9.all fun j => r9.all fun k => !(Nat.ble 2 j && Nat.ble j k) || decide (RB 2 j k = tb 2 j k)) = true := by decide +kernel
theorem RB_3 : (r9.all fun j => r9.all fun k => !(Nat.ble 3 j && Nat.ble j k) || decide (RB 3 j k = tb 3 j k)) = true := by decide +kernel
theorem RB_4 : (r9.all fun j => r9.all fun k => !(Nat.ble 4 j && Nat.ble j k) || decide (RB 4 j k = tb 4 j k)) = true := by decide +kernel
theorem RB_5 : (r9.all fun j => r9.all fun k => !(Nat.ble 5 j && Nat.ble j k) || decide (RB 5 j k = tb 5 j k)) = true := by decide +kernel
theorem RB_6 : (r9.all fun j => r9.all fun k => !(Nat.ble 6 j && Nat.ble j k) || decide (RB 6 j k = tb 6 j k)) = true := by decide +kernel
theorem RB_7 : (r9.all fun j => r9.all fun k => !(Nat.ble 7 j && Nat.ble j k) || decide (RB 7 j k = tb 7 j k)) = true := by decide +kernel
theorem RB_8 : (r9.all fun j => r9.all fun k => !(Nat.ble 8 j && Nat.ble j k) || decide (RB 8 j k = tb 8 j k)) = true := by decide +kernel
noncomputable def lo (a b c : Nat) : Nat := min a (min b c)
noncomputable def hi (a b c : Nat) : Nat := max a (max b c)
noncomputable def mid (a b c : Nat) : Nat := a + b + c - lo a b c - hi a b c
theorem CB_0 : (r9.all fun b => r9.all fun c => decide (tb 0 b c = tb (lo 0 b c) (mid 0 b c) (hi 0 b c)) && decide (tb 0 b c ≠ (0, 0)) && (stA 0 b c).1.isPerm (stA (lo 0 b c) (mid 0 b c) (hi 0 b c)).1) = true := by decide +kernel
theorem CB_1 : (r9.all fun b => r9.all fun c => decide (tb 1 b c = tb (lo 1 b c) (mid 1 b c) (hi 1 b c)) && decide (tb 1 b c ≠ (0, 0)) && (stA 1 b c).1.isPerm (stA (lo 1 b c) (mid 1 b c) (hi 1 b c)).1) = true := by decide +kernel
theorem CB_2 : (r9.all fun b => r9.all fun c => decide (tb 2 b c = tb (lo 2 b c) (mid 2 b c) (hi 2 b c)) && decide (tb 2 b c ≠ (0, 0)) && (stA 2 b c).1.isPerm (stA (lo 2 b c) (mid 2 b c) (hi 2 b c)).1) = true := by decide +kernel
theorem CB_3 : (r9.all fun b => r9.all fun c => decide (tb 3 b c = tb (lo 3 b c) (mid 3 b c) (hi 3 b c)) && decide (tb 3 b c ≠ (0, 0)) && (stA 3 b c).1.isPerm (stA (lo 3 b c) (mid 3 b c) (hi 3 b c)).1) = true := by decide +kernel
theorem CB_4 : (r9.all fun b => r9.all fun c => decide (tb 4 b c = tb (lo 4 b c) (mid 4 b c) (hi 4 b c)) && decide (tb 4 b c ≠ (0, 0)) && (stA 4 b c).1.isPerm (stA (lo 4 b c) (mid 4 b c) (hi 4 b c)).1) = true := by decide +kernel
theorem CB_5 : (r9.all fun b => r9.all fun c => decide (tb 5 b c = tb (lo 5 b c) (mid 5 b c) (hi 5 b c)) && decide (tb 5 b c ≠ (0, 0)) && (stA 5 b c).1.isPerm (stA (lo 5 b c) (mid 5 b c) (hi 5 b c)).1) = true := by decide +kernel
theorem CB_6 : (r9.all fun b => r9.all fun c => decide (tb 6 b c = tb (lo 6 b c) (mid 6 b c) (hi 6 b c)) && decide (tb 6 b c ≠ (0, 0)) && (stA 6 b c).1.isPerm (stA (lo 6 b c) (mid 6 b c) (hi 6 b c)).1) = true := by decide +kernel
theorem CB_7 : (r9.all fun b => r9.all fun c => decide (tb 7 b c = tb (lo 7 b c) (mid 7 b c) (hi 7 b c)) && decide (tb 7 b c ≠ (0, 0)) && (stA 7 b c).1.isPerm (stA (lo 7 b c) (mid 7 b c) (hi 7 b c)).1) = true := by decide +kernel
theorem CB_8 : (r9.all fun b => r9.all fun c => decide (tb 8 b c = tb (lo 8 b c) (mid 8 b c) (hi 8 b c)) && decide (tb 8 b c ≠ (0, 0)) && (stA 8 b c).1.isPerm (stA (lo 8 b c) (mid 8 b c) (hi 8 b c)).1) = true := by decide +kernel
end
section
open PySem PySem.W PyProof.Rows PySem.Calls
set_option Elab.async false
set_option maxRecDepth 100000
theorem nine : ∀ b, b < 9 → b = 0 ∨ b = 1 ∨ b = 2 ∨ b = 3 ∨ b = 4 ∨ b = 5 ∨ b = 6 ∨ b = 7 ∨ b = 8 := by decide
theorem mem_r9 : ∀ j, j < 9 → j ∈ r9 := by decide
theorem all2 {P : Nat → Nat → Bool} (h : (r9.all fun b => r9.all fun c => P b c) = true) {b c : Nat} (hb : b < 9) (hc : c < 9) : P b c = true :=
  List.all_eq_true.mp (List.all_eq_true.mp h b (mem_r9 b hb)) c (mem_r9 c hc)
theorem lo_all : (r9.all fun a => r9.all fun b => r9.all fun c => decide (lo a b c ≤ mid a b c ∧ mid a b c ≤ hi a b c ∧ hi a b c < 9)) = true := by decide +kernel
theorem lo_hi {a b c : Nat} (ha : a < 9) (hb : b < 9) (hc : c < 9) : lo a b c ≤ mid a b c ∧ mid a b c ≤ hi a b c ∧ hi a b c < 9 :=
  of_decide_eq_true (all2 (P := fun b c => decide (lo a b c ≤ mid a b c ∧ mid a b c ≤ hi a b c ∧ hi a b c < 9)) (List.all_eq_true.mp lo_all a (mem_r9 a ha)) hb hc)
theorem getD_r9 {α : Type} (f : Nat → α) (d : α) : ∀ b, b < 9 → (r9.map f).getD b d = f b := by
  intro b hb
  have := nine b (by assumption)
  rcases this with rfl | rfl | rfl | rfl | rfl | rfl | rfl | rfl | rfl <;> rfl
theorem SA_at {a b c : Nat} (hb : b < 9) (hc : c < 9) : ((SA a).getD b []).getD c (0, 0) = sumS (stA a b c) := by
  unfold SA
  rw [getD_r9 _ _ b hb, getD_r9 _ _ c hc]
theorem sum_tb {a b c : Nat} (ha : a < 9) (hb : b < 9) (hc : c < 9) : sumS (stA a b c) = tb a b c := by
  rw [← SA_at hb hc]
  have := nine a (by assumption)
  rcases this with rfl | rfl | rfl | rfl | rfl | rfl | rfl | rfl | rfl
  · rw [SA_0]; rfl
  · rw [SA_1]; rfl
  · rw [SA_2]; rfl
  · rw [SA_3]; rfl
  · rw [SA_4]; rfl
  · rw [SA_5]; rfl
  · rw [SA_6]; rfl
  · rw [SA_7]; rfl
  · rw [SA_8]; rfl
theorem rows_tb {i j k : Nat} (hk : k < 9) (hij : i ≤ j) (hjk : j ≤ k) : RB i j k = tb i j k := by
  have hj : j < 9 := Nat.lt_of_le_of_lt hjk hk
  have hi : i < 9 := Nat.lt_of_le_of_lt hij hj
  have conv : (!(Nat.ble i j && Nat.ble j k) || decide (RB i j k = tb i j k)) = true → RB i j k = tb i j k := by
    have e1 : Nat.ble i j = true := Nat.ble_eq.mpr hij
    have e2 : Nat.ble j k = true := Nat.ble_eq.mpr hjk
    rw [e1, e2]
    intro h
    simpa using h
  have := nine i (by assumption)
  rcases this with rfl | rfl | rfl | rfl | rfl | rfl | rfl | rfl | rfl
  · exact conv (all2 (P := fun j k => !(Nat.ble 0 j && Nat.ble j k) || decide (RB 0 j k = tb 0 j k)) RB_0 hj hk)
  · exact conv (all2 (P := fun j k => !(Nat.ble 1 j && Nat.ble j k) || decide (RB 1 j k = tb 1 j k)) RB_1 hj hk)
  · exact conv (all2 (P := fun j k => !(Nat.ble 2 j && Nat.ble j k) || decide (RB 2 j k = tb 2 j k)) RB_2 hj hk)
  · exact conv (all2 (P := fun j k => !(Nat.ble 3 j && Nat.ble j k) || decide (RB 3 j k = tb 3 j k)) RB_3 hj hk)
  · exact conv (all2 (P := fun j k => !(Nat.ble 4 j && Nat.ble j k) || decide (RB 4 j k = tb 4 j k)) RB_4 hj hk)
  · exact conv (all2 (P := fun j k => !(Nat.ble 5 j && Nat.ble j k) || decide (RB 5 j k = tb 5 j k)) RB_5 hj hk)
  · exact conv (all2 (P := fun j k => !(Nat.ble 6 j && Nat.ble j k) || decide (RB 6 j k = tb 6 j k)) RB_6 hj hk)
  · exact conv (all2 (P := fun j k => !(Nat.ble 7 j && Nat.ble j k) || decide (RB 7 j k = tb 7 j k)) RB_7 hj hk)
  · exact conv (all2 (P := fun j k => !(Nat.ble 8 j && Nat.ble j k) || decide (RB 8 j k = tb 8 j k)) RB_8 hj hk)
theorem sort_tb {a b c : Nat} (ha : a < 9) (hb : b < 9) (hc : c < 9) : tb a b c = tb (lo a b c) (mid a b c) (hi a b c) ∧ tb a b c ≠ (0, 0) ∧ (stA a b c).1.Perm (stA (lo a b c) (mid a b c) (hi a b c)).1 := by
  have conv : (decide (tb a b c = tb (lo a b c) (mid a b c) (hi a b c)) && decide (tb a b c ≠ (0, 0)) && (stA a b c).1.isPerm (stA (lo a b c) (mid a b c) (hi a b c)).1) = true → tb a b c = tb (lo a b c) (mid a b c) (hi a b c) ∧ tb a b c ≠ (0, 0) ∧ (stA a b c).1.Perm (stA (lo a b c) (mid a b c) (hi a b c)).1 := by
    intro h
    rw [Bool.and_eq_true, Bool.and_eq_true] at h
    exact ⟨of_decide_eq_true h.1.1, of_decide_eq_true h.1.2, List.isPerm_iff.mp h.2⟩
  have := nine a (by assumption)
  rcases this with rfl | rfl | rfl | rfl | rfl | rfl | rfl | rfl | rfl
  · exact conv (all2 (P := fun b c => decide (tb 0 b c = tb (lo 0 b c) (mid 0 b c) (hi 0 b c)) && decide (tb 0 b c ≠ (0, 0)) && (stA 0 b c).1.isPerm (stA (lo 0 b c) (mid 0 b c) (hi 0 b c)).1) CB_0 hb hc)
  · exact conv (all2 (P := fun b c => decide (tb 1 b c = tb (lo 1 b c) (mid 1 b c) (hi 1 b c)) && decide (tb 1 b c ≠ (0, 0)) && (stA 1 b c).1.isPerm (stA (lo 1 b c) (mid 1 b c) (hi 1 b c)).1) CB_1 hb hc)
  · exact conv (all2 (P := fun b c => decide (tb 2 b c = tb (lo 2 b c) (mid 2 b c) (hi 2 b c)) && decide (tb 2 b c ≠ (0, 0)) && (stA 2 b c).1.isPerm (stA (lo 2 b c) (mid 2 b c) (hi 2 b c)).1) CB_2 hb hc)
  · exact conv (all2 (P := fun b c => decide (tb 3 b c = tb (lo 3 b c) (mid 3 b c) (hi 3 b c)) && decide (tb 3 b c ≠ (0, 0)) && (stA 3 b c).1.isPerm (stA (lo 3 b c) (mid 3 b c) (hi 3 b c)).1) CB_3 hb hc)
  · exact conv (all2 (P := fun b c => decide (tb 4 b c = tb (lo 4 b c) (mid 4 b c) (hi 4 b c)) && decide (tb 4 b c ≠ (0, 0)) && (stA 4 b c).1.isPerm (stA (lo 4 b c) (mid 4 b c) (hi 4 b c)).1) CB_4 hb hc)
  · exact conv (all2 (P := fun b c => decide (tb 5 b c = tb (lo 5 b c) (mid 5 b c) (hi 5 b c)) && decide (tb 5 b c ≠ (0, 0)) && (stA 5 b c).1.isPerm (stA (lo 5 b c) (mid 5 b c) (hi 5 b c)).1) CB_5 hb hc)
  · exact conv (all2 (P := fun b c => decide (tb 6 b c = tb (lo 6 b c) (mid 6 b c) (hi 6 b c)) && decide (tb 6 b c ≠ (0, 0)) && (stA 6 b c).1.isPerm (stA (lo 6 b c) (mid 6 b c) (hi 6 b c)).1) CB_6 hb hc)
  · exact conv (all2 (P := fun b c => decide (tb 7 b c = tb (lo 7 b c) (mid 7 b c) (hi 7 b c)) && decide (tb 7 b c ≠ (0, 0)) && (stA 7 b c).1.isPerm (stA (lo 7 b c) (mid 7 b c) (hi 7 b c)).1) CB_7 hb hc)
  · exact conv (all2 (P := fun b c => decide (tb 8 b c = tb (lo 8 b c) (mid 8 b c) (hi 8 b c)) && decide (tb 8 b c ≠ (0, 0)) && (stA 8 b c).1.isPerm (stA (lo 8 b c) (mid 8 b c) (hi 8 b c)).1) CB_8 hb hc)

noncomputable def Good3 (s : StT) : Prop := s.2 = setsL (s.1.map endT)
theorem stp_good {s : StT} (h : Good3 s) (x : Int) : (stp s (x.fmod 9).toNat).1 = tiesStep s.1 x ∧ Good3 (stp s (x.fmod 9).toNat) := by
  unfold stp tiesStep
  by_cases hm : spareL.getD (x.fmod 9).toNat 0 ∈ s.1
  · rw [if_pos hm, if_pos hm]; exact ⟨rfl, h⟩
  · rw [if_neg hm, if_neg hm]
    refine ⟨rfl, ?_⟩
    show setsStep s.2 _ = setsL (List.map endT (s.1 ++ [_]))
    rw [h, List.map_append]
    unfold setsL
    rw [List.foldl_append]
    rfl
/-- the three numbers, and all that the tables tell of their net -/
theorem net {l : List Int} (hl : l.length = 3) : ∃ a b c, a < 9 ∧ b < 9 ∧ c < 9 ∧ (stA a b c).1 = tiesF l ∧ (stA a b c).2 = setsL ((tiesF l).map endT) := by
  obtain ⟨x, y, z, rfl⟩ : ∃ x y z, l = [x, y, z] := by
    match l, hl with
    | [x, y, z], _ => exact ⟨x, y, z, rfl⟩
  refine ⟨(x.fmod 9).toNat, (y.fmod 9).toNat, (z.fmod 9).toNat, fmod9 x, fmod9 y, fmod9 z, ?_⟩
  have h0 : Good3 st0 := rfl
  have h1 := stp_good h0 x
  have h2 := stp_good h1.2 y
  have h3 := stp_good h2.2 z
  have e : (stA (x.fmod 9).toNat (y.fmod 9).toNat (z.fmod 9).toNat).1 = tiesF [x, y, z] := by
    show (stp _ _).1 = _
    rw [h3.1, h2.1, h1.1]
    rfl
  refine ⟨e, ?_⟩
  rw [← e]
  exact h3.2
theorem facts {l : List Int} (hl : l.length = 3) : ∃ n1 n2, condS (tiesF l) (setsL ((tiesF l).map endT)) = true ∧ sum1 (setsL ((tiesF l).map endT)) = n1 ∧ sum2 (setsL ((tiesF l).map endT)) = n2 ∧
    (∀ ks : List Int, ks.Nodup → (∀ x, x ∈ ks ↔ x ∈ rowsL 1 (tiesF l)) → ks.length = n1) ∧ (∀ ks : List Int, ks.Nodup → (∀ x, x ∈ ks ↔ x ∈ rowsL 2 (tiesF l)) → ks.length = n2) := by
  obtain ⟨a, b, c, ha, hb, hc, e1, e2⟩ := net hl
  have hs := sum_tb ha hb hc
  obtain ⟨t1, t2, t3⟩ := sort_tb ha hb hc
  have hlo := lo_hi ha hb hc
  have hr := rows_tb hlo.2.2 hlo.1 hlo.2.1
  rw [← t1, ← hs] at hr
  have hcond : condS (stA a b c).1 (stA a b c).2 = true := by
    unfold sumS at hs
    by_cases q : condS (stA a b c).1 (stA a b c).2 = true
    · exact q
    · rw [if_neg q] at hs
      exact absurd hs.symm t2
  have hsum : sumS (stA a b c) = (sum1 (stA a b c).2, sum2 (stA a b c).2) := by unfold sumS; rw [if_pos hcond]
  rw [hsum] at hr
  unfold RB at hr
  rw [Prod.mk.injEq] at hr
  rw [e1] at t3
  rw [e1, e2] at hcond
  rw [e2] at hr
  have hpos : ∀ t ∈ (stA (lo a b c) (mid a b c) (hi a b c)).1, 0 ≤ t := fun t ht => (allT_pos t (tiesF_mem l t (t3.mem_iff.mpr ht))).1
  refine ⟨_, _, hcond, rfl, rfl, fun ks hk hm => ?_, fun ks hk hm => ?_⟩
  · rw [← hr.1]
    exact count_rows (.inl rfl) hpos hk fun x => (hm x).trans (rows_perm t3 [0] [0] (fun _ => Iff.rfl) x)
  · rw [← hr.2]
    exact count_rows (.inr rfl) hpos hk fun x => (hm x).trans (rows_perm t3 [0] [0] (fun _ => Iff.rfl) x)
theorem plain_len {l : List Int} (hl : l.length = 3) : (textL ((tiesF l).length - 1) (setsL ((tiesF l).map endT))).length ≤ 1000 := by
  obtain ⟨_, _, hc, _⟩ := facts hl
  unfold condS at hc
  rw [Bool.and_eq_true] at hc
  rw [text_len]
  exact of_decide_eq_true hc.2
theorem plain_run {l : List Int} (hl : l.length = 3) {mx : Int} (hmx : mx ∈ rowsL 1 (tiesF l)) (hmx' : ∀ x ∈ rowsL 1 (tiesF l), x ≤ mx) {cnt : List Int} {bb nn nt : Nat}
    (hst : wsRun (textL ((tiesF l).length - 1) (setsL ((tiesF l).map endT))) = (cnt, bb, nn, nt)) {v : Array UInt8} (hv : v = apw 24 mx.natAbs) {c : Int} (hc : c = (((List.replicate (5 - (v.size : Int)).toNat [(65 : UInt8)]).flatten.toArray ++ v).toList.count 65 : Nat)) :
    (if (bb : Int) > (cnt.length : Int) - 1 then (bb : Int) else (cnt.length : Int) - 1) = if ((tiesF l).length : Int) - 1 > 5 - c then ((tiesF l).length : Int) - 1 else 5 - c := by
  obtain ⟨h1, _, _, h4⟩ := ws_text hst
  have ht := rows_top (T := tiesF l) fun t ht => (allT_pos t (tiesF_mem l t ht)).1
  have hm : mx = (tiesF l).sum := by
    have g1 := ht.2 mx hmx
    have g2 := hmx' _ ht.1
    (first | (law_clear; lia) | omega)
  obtain ⟨_, _, hcd, _⟩ := facts hl
  unfold condS at hcd
  rw [Bool.and_eq_true] at hcd
  have hcd := of_decide_eq_true hcd.1
  have hn : 5 - c = nodesOf (tiesF l).sum := by rw [hc, hv, hm]; rfl
  rw [h1, h4, hn]
  exact hcd
theorem plain_nt {l : List Int} (hl : l.length = 3) {cnt : List Int} {bb nn nt : Nat}
    (hst : wsRun (textL ((tiesF l).length - 1) (setsL ((tiesF l).map endT))) = (cnt, bb, nn, nt)) {ks : List Int} (hk : ks.Nodup) (hm : ∀ x, x ∈ ks ↔ x ∈ rowsL 1 (tiesF l)) : (nt : Int) = ks.length := by
  obtain ⟨_, h2, _, _⟩ := ws_text hst
  obtain ⟨n1, n2, _, e1, _, g1, _⟩ := facts hl
  rw [g1 ks hk hm, h2, e1]
theorem plain_sum {l : List Int} (hl : l.length = 3) {cnt : List Int} {bb nn nt : Nat}
    (hst : wsRun (textL ((tiesF l).length - 1) (setsL ((tiesF l).map endT))) = (cnt, bb, nn, nt)) {ks : List Int} (hk : ks.Nodup) (hm : ∀ x, x ∈ ks ↔ x ∈ rowsL 2 (tiesF l)) :
    ((List.range cnt.length).map fun k => cnt.getD k 0 * 2 ^ k).sum = ks.length := by
  obtain ⟨_, _, h3, _⟩ := ws_text hst
  obtain ⟨n1, n2, _, _, e2, _, g2⟩ := facts hl
  rw [valL_sum, h3, g2 ks hk hm, e2]
end
section
open PySem PySem.W PyProof.Rows PySem.Calls
open Sem (wp)
set_option Elab.async false
set_option maxRecDepth 100000
set_option maxHeartbeats 20000000
set_option pp.deepTerms false
set_option pp.deepTerms.threshold 4
set_option pp.proofs false
theorem start : PySem.Challenge.rw_wn0101_01.Holds := hd (by
  k_with_none
  w_top off
  k_with "call ref" => (with_reducible (refine stopHere ?_))
  k_with "eval ListComp" => (with_reducible (refine stopHere ?_))
  k_with "exec Assign cons ListComp" => (with_reducible (refine stopHere ?_))
  k_with "eval Name" => (((with_reducible show wpAny _ _ (eval _ (compEnvC _ _ _ _)) _ _ _); (with_reducible rename Fr _ _ _ _ => zF0); k_dflt (first | (refine nm_loc zF0 rfl rfl rfl ?_ (by decide)) | (refine nm_cell zF0 rfl rfl rfl (by assumption) (by assumption) ?_ (by decide)))))
  k_with "binaryOp Mult bytes int" => (((with_reducible show wpAny _ _ (binaryOp Operator.Mult (Value.bytes (List.toArray _) _) (Value.int _ _)) _ _ _); (refine wpAny_with_toks (n := _) (Nat.le_refl _) (bytes_mul_any (List.cons_ne_nil _ _) (by (first | (law_clear; lia) | omega)) (by (first | (law_clear; lia) | omega)) (by decide) ?_)); intro _ _ zhmt; (dsimp only at zhmt)))
  k_with "binaryOp Add bytes bytes" => (((refine wpAny_with_toks (n := _) (Nat.le_refl _) (KBy.add_bytes (nodes_room (by (first | (law_clear; lia) | omega)) (by assumption)) ?_)); intro _ _ zhat; (dsimp only at zhat)))
  k_with "call builtin:len" => (((with_reducible show wpAny _ _ (call (Value.builtin "len") [Value.ref _]) _ _ _); (with_reducible refine stopHere ?_)))
  k_with "binaryOp LShift int int" => (((with_reducible show wpAny _ _ (binaryOp Operator.LShift (Value.int (List.getD _ _ _) _) (Value.int _ _)) _ _ _); (with_reducible refine stopHere ?_)))
  k_go0
  with_reducible rename Fr _ _ _ _ => F0
  with_reducible rename News _ _ _ _ => N0
  rename CellsAre _ _ _ => Y0
  with_reducible rename (_ = Data.cell _) => hW
  rename Top _ _ _ _ _ _ => T0
  rename Frag.In _ _ => X0
  rename IntsAre _ _ => hI0
  rename Heap.IsList _ _ _ => hL0
  rename World => w
  rename List Int => script
  obtain ⟨dp, un, fr, gd, hA, hdp, hun⟩ := caller_is
  rw [hA]
  refine abs_post fun QQ hQQ => ?_
  dsimp only
  repeat walk1
  refine ⟨?_⟩
  refine ties_spec _ _ _ (by (first | (law_clear; lia) | omega)) (hL0.at fun o q => F0.keep _ o q) hI0 (by first | exact room1 (by assumption) (by rfl) | exact room0 (by assumption) (by rfl) | (simp only [Around.deeper]; (first | (law_clear; lia) | omega))) (by first | exact room1 (by assumption) (by rfl) | exact room0 (by assumption) (by rfl) | (simp only [Around.deeper]; (first | (law_clear; lia) | omega))) (X0.keeps F0.keep) (T0.keeps F0.keep) fun r h' tk' l us hk' hr hl hLr hIr => ?_
  have F1 := F0.keeps hk'
  have N1 := N0.grown hk'
  obtain ⟨oR, gR, cR, nR, dR⟩ := hLr
  have N2 := news_add F0 N1 hr gR
  clear F0 N0 N1
  have hTl : 3 ≤ (tiesF l).length ∧ (tiesF l).length ≤ 6 := by
    have h := tiesF_len l
    rw [hl] at h
    exact h
  have hTm := tiesF_mem l
  have hIl := hIr.length
  repeat walk1
  refine ⟨?_⟩
  with_reducible rename News _ _ _ _ => N3
  have gR3 := (N3 _ (List.Mem.head _)).1
  refine' ListComp_my ?hclos ?hcell ?hkind ?hnames ?_ ?hs
  case hclos => with_unfolding_all rfl
  case hcell => decide
  case hkind => with_unfolding_all rfl
  case hnames => decide
  case hs => intro _; with_unfolding_all rfl
  walk1
  with_reducible rename Fr _ _ _ _ => F4
  with_reducible rename News _ _ _ _ => N4
  have hLr4 : Heap.IsList _ r us.toArray := ⟨oR, gR3, cR, nR, dR⟩
  refine pyIter_list_src rfl hLr4 fun h₂ I fp wr St Sx => ?_
  refine ⟨⟨I, fp, wr, _, _, St, fun _ => true, fun j y hh => EndAt hh (endT ((tiesF l).getD j 0)) y, rfl, Sx.walks, ?_, Sx.start, Sx.lt, Sx.keep, Sx.new, Sx.size, Sx.live, go_name, ?_, ?_⟩⟩
  · rw [List.size_toArray, hIl]
    have h64 : 64 ≤ sizeLine := by decide
    (first | (law_clear; lia) | omega)
  · intro j v C h9 tk9 m hj hP htk F hgh all Nall Hall
    dsimp only at F Nall Hall hgh
    have Xg := Frag.In.keeps X0 F4.keep
    have Tg := T0.keeps F4.keep
    rw [List.size_toArray, hIl] at hj
    obtain ⟨u, hv⟩ := hIr.get j (tiesF l)[j] (List.getElem?_eq_getElem hj)
    have hv : v = .int (tiesF l)[j] u := by
      rw [List.getElem?_toArray, hv] at hP
      exact (Option.some.inj hP).symm
    subst hv
    have htm := hTm _ (List.getElem_mem hj)
    have hget : (tiesF l).getD j 0 = (tiesF l)[j] := by simp [List.getD, hj]
    clear hP
    generalize (tiesF l)[j] = t at *
    have htp := allT_pos t htm
    refine wpAny_assign_Name (st_any F Nall rfl rfl fun h₃ F₃ N₃ => ?_)
    refine wpAny_tests_nil ?_
    rw [if_pos rfl]
    refine ⟨rfl, ?_⟩
    clear F
    repeat walk1
    refine ⟨?_⟩
    with_reducible rename Fr _ _ _ _ => F5
    with_reducible rename News _ _ _ _ => N5
    refine wpAny_with_toks (n := _) (Nat.le_refl _) (ap_spec _ _ (by (first | (law_clear; lia) | omega)) (by first | exact room1 (by assumption) (by rfl) | exact room0 (by assumption) (by rfl) | (simp only [Around.deeper]; (first | (law_clear; lia) | omega))) (by first | exact room1 (by assumption) (by rfl) | exact room0 (by assumption) (by rfl) | (simp only [Around.deeper]; (first | (law_clear; lia) | omega))) (Xg.keeps F5.keep) (Tg.keeps F5.keep) fun h6 tk6 t6 v6 hk6 hv6 htk6 => ?_)
    dsimp only at htk6 hk6
    have F6 := F5.keeps hk6
    have N6 := N5.grown hk6
    clear F5 N5
    repeat walk1
    refine ⟨?_⟩
    with_reducible rename Fr _ _ _ _ => F7
    with_reducible rename News _ _ _ _ => N7
    have hsz6 : v6.size ≤ 24 := by rw [hv6]; exact apw_size _ _
    have hin6 : (66 : UInt8) ∈ v6 ∨ (67 : UInt8) ∈ v6 := by
      have := allT_has t htm
      rw [hv6, Int.natAbs_neg]
      exact this
    refine ends_spec _ _ (by (first | (law_clear; lia) | omega)) hin6 (by dsimp only; (first | (law_clear; lia) | omega)) (by first | exact room1 (by assumption) (by rfl) | exact room0 (by assumption) (by rfl) | (simp only [Around.deeper]; (first | (law_clear; lia) | omega))) (by first | exact room1 (by assumption) (by rfl) | exact room0 (by assumption) (by rfl) | (simp only [Around.deeper]; (first | (law_clear; lia) | omega))) (Xg.keeps F7.keep) (Tg.keeps F7.keep) fun h8 tk8 a8 t8 u8 hk8 hT8 hn8 => ?_
    refine ⟨⟨_, _, _, rfl, F7.keeps hk8, keeps_all Hall (F7.keeps hk8) (N7.grown hk8) (fun _ q => q), fun h'' hh => ?_⟩⟩
    obtain ⟨oC7, _, _, gC7, _⟩ := id F7.ns
    have gC7 : h6.get? C = some oC7 := gC7
    obtain ⟨oL4, _, _, gL4, _⟩ := id F4.ns
    have gL7 := F7.keep _ _ gL4
    obtain ⟨oT, gT, cT, nT, dT⟩ := hT8
    have hn8 : h6.get? a8 = none := hn8
    show EndAt h'' _ _
    rw [hget]
    have he8 : endT t = endOf v6 := by unfold endT; rw [hv6, Int.natAbs_neg]
    rw [he8]
    refine ⟨a8, t8, u8, rfl, oT, hh a8 oT (.inl ?_) (fun q => ?_) gT, cT, nT, dT⟩
    · cases z : h9.get? a8 with
      | none => rfl
      | some o' =>
        have hne : a8 ≠ C := fun q => by rw [q, gC7] at hn8; cases hn8
        have := keeps_all Hall F7 N7 (fun _ q => q) a8 o' hne z
        exact absurd (hn8.symm.trans this) (fun q => nomatch q)
    · rw [q] at hn8
      exact absurd (hn8.symm.trans gL7) (fun q => nomatch q)
  · intro D h9 tk9 ys hD hpl hpr hk9
    dsimp only at hD hk9 ⊢
    have F5 := F4.keeps hk9
    have N5 := N4.grown hk9
    have hall : (List.range us.toArray.size).filter (fun _ => true) = List.range (tiesF l).length := by simp [hIl]
    rw [hall] at hpr
    clear F4 N4
    repeat walk1
    refine ⟨?_⟩
    have hE9 : Paired (EndAt h9) ((tiesF l).map endT) ys.toList := paired_range (F := EndAt h9) (f := endT) hpr
    obtain ⟨nD, eD⟩ := id hpl
    have hlD : h9.IsList D ys.toList.toArray := ⟨_, eD, rfl, nD, rfl⟩
    with_reducible rename Fr _ _ _ _ => F5
    with_reducible rename News _ _ _ _ => N5
    clear hpr hpl hall hk9 hD
    have hes : ∀ p ∈ (tiesF l).map endT, (0 ≤ p.1 ∧ p.1 < 5) ∧ 0 ≤ p.2 ∧ p.2 < 5 := fun p hp => by
      obtain ⟨t, ht, rfl⟩ := List.mem_map.mp hp
      exact allT_end t (hTm t ht)
    refine sets_spec _ _ _ (by rw [List.length_map]; (first | (law_clear; lia) | omega)) hes hlD hE9 (by first | exact room1 (by assumption) (by rfl) | exact room0 (by assumption) (by rfl) | (simp only [Around.deeper]; (first | (law_clear; lia) | omega))) (by first | exact room1 (by assumption) (by rfl) | exact room0 (by assumption) (by rfl) | (simp only [Around.deeper]; (first | (law_clear; lia) | omega))) (X0.keeps F5.keep) (T0.keeps F5.keep) fun S h10 tk10 hk10 hS10 => ?_
    dsimp only at hk10 hS10
    have F10 := F5.keeps hk10
    have gR10 := hk10 _ _ (N5 _ (List.Mem.head _)).1
    have rR := (N5 _ (List.Mem.head _)).2
    have gW10 := hk10 _ _ (N5 _ (List.Mem.tail _ (List.Mem.head _))).1
    have rW := (N5 _ (List.Mem.tail _ (List.Mem.head _))).2
    dsimp only at gR10 rR gW10 rW
    obtain ⟨all, Nall, Hall⟩ := all_fr F10
    have hS10' : SetsAt (fun b => b ≠ _) h10 S _ := hS10.mono fun b o xs n hP q _ => ⟨q, ne_loc F5 hP⟩
    clear F5 N5
    repeat walk1
    with_reducible rename Fr _ _ _ _ => F11
    with_reducible rename News _ _ _ _ => N11
    have k11 := keeps_all Hall F11 N11 (fun _ q => q)
    have hS11 : SetsAt (fun _ => True) _ S _ := hS10'.mono fun b o xs n hP q _ => ⟨k11 b o hP q, trivial⟩
    have gR11 := k11 _ _ rR.1 gR10
    have gW11 := k11 _ _ rW.1 gW10
    clear hS10 hS10' Hall N11 k11 hk10 gR10 gW10 hE9 eD hlD nD hes Sx hLr4 gR3
    have hbd := sets_bound ((tiesF l).map endT)
    have hlen64 := (setsL_ok ((tiesF l).map endT) (by rw [List.length_map]; (first | (law_clear; lia) | omega))).2
    rw [List.length_map] at hbd
    replace hbd : ∀ d ∈ setsL ((tiesF l).map endT), ((0 : Int) ≤ d.2.1 ∧ d.2.1 ≤ d.2.2) ∧ d.2.2 ≤ (6 : Int) := fun d hd => ⟨(hbd d hd).1, Int.le_trans (hbd d hd).2 (Int.ofNat_le.mpr hTl.2)⟩
    generalize hds : setsL ((tiesF l).map endT) = ds at hS11 hbd hlen64
    refine ⟨?_⟩
    refine' Assign_ListComp_my ?hsw ?hclos ?hcell ?hkind ?hnames ?hy ?hp ?_ ?hs
    case hsw => with_unfolding_all rfl
    case hclos => with_unfolding_all rfl
    case hcell => decide
    case hkind => with_unfolding_all rfl
    case hnames => decide
    case hy => with_unfolding_all rfl
    case hp => with_unfolding_all rfl
    case hs => intro _; with_unfolding_all rfl
    have N11 := news_add2 F11 rR gR11 rW gW11
    walk1
    with_reducible rename Fr _ _ _ _ => F12
    with_reducible rename News _ _ _ _ => N12
    obtain ⟨vs, _, hlS, hpS⟩ := hS11
    refine pyIter_list_srcT rfl hlS fun h₂ I2 fp wr St2 Sx hgo => ?_
    refine ⟨⟨I2, fp, wr, _, _, St2, fun _ => true, fun j y _ => ∃ t, y = .str ⟨(runL (ds.getD j ([], 0, 0))).toArray⟩ t, _, rfl, Sx.walks, ?_, Sx.start, Sx.lt, Sx.keep, Sx.new, Sx.size, Sx.live, ?_, F12.ns, ?_, ?_⟩⟩
    · rw [List.size_toArray, ← hpS.length]
      have h64 : 64 ≤ sizeLine := by decide
      (first | (law_clear; lia) | omega)
    · intro i v s Q E hP hst hq
      have hP : vs.toArray[i]? = some v := hP
      rw [List.getElem?_toArray] at hP
      have hi : i < ds.length := by
        have := (List.getElem?_eq_some_iff.mp hP).1
        rw [hpS.length]; exact this
      obtain ⟨v', hv', aj, rfl, _⟩ := Paired.get hpS (List.getElem?_eq_getElem hi)
      rw [hP] at hv'
      obtain rfl := Option.some.inj hv'
      exact hgo _ _ _ _ _ _ _ _ hst hq
    · intro j v C h9 tk9 m hj hP htk F hgh all Nall Hall
      dsimp only at F Nall Hall hgh
      have Xg := Frag.In.keeps X0 F12.keep
      have Tg := T0.keeps F12.keep
      have hj : j < vs.toArray.size := hj
      rw [List.size_toArray, ← hpS.length] at hj
      obtain ⟨v', hv', aj, rfl, hOne⟩ := Paired.get hpS (List.getElem?_eq_getElem hj)
      have hv : v = .ref aj := by
        rw [List.getElem?_toArray, hv'] at hP
        exact (Option.some.inj hP).symm
      subst hv
      have hget : ds.getD j ([], 0, 0) = ds[j] := by simp [List.getD, hj]
      have hbj := hbd _ (List.getElem_mem hj)
      obtain ⟨st, vst, t1, t2, _, _, hT, hTst, hist⟩ := hOne
      clear hP hv'
      generalize ds[j] = d at *
      obtain ⟨sides, rings, size⟩ := d
      dsimp only at hbj hT hist
      refine assign3 rfl (Heap.IsTuple.at hT fun o q => F.keep _ o q) F Nall rfl rfl rfl rfl fun h₃ F₃ N₃ => ?_
      refine wpAny_tests_nil ?_
      rw [if_pos rfl]
      refine ⟨rfl, ?_⟩
      clear F
      repeat walk1
      have hrs := run_str (sides := sides) (rings := rings) (size := size) (by (first | (law_clear; lia) | omega))
      refine SB.mul (mulOk_of 16 1048576 hrs.2.1 (Int.le_trans hrs.2.2.1 (by decide)) (Int.le_trans (by decide) hrs.2.2.2) (by decide) (by decide)) fun t8 k8 => ?_
      with_reducible rename Fr _ _ _ _ => F5
      with_reducible rename News _ _ _ _ => N5
      refine ⟨⟨_, _, _, rfl, F5, keeps_all Hall F5 N5 (fun _ q => q), fun h'' hh => ⟨t8, ?_⟩⟩⟩
      rw [hget, hrs.1]
    · intro D h9 tk9 ys hD hpl hpr hns hk9
      dsimp only at hD hk9 ⊢ hns
      have F5x := F12.keeps Sx.keep
      obtain ⟨F5, N5⟩ := fin_assign F12 N12 hk9 hns
      clear hns
      have hpr9 : Paired (fun d y => ∃ t, y = Value.str ⟨(runL d).toArray⟩ t) ds ys.toList := by
        have := paired_range (F := fun d y => ∃ t, y = Value.str ⟨(runL d).toArray⟩ t) (f := id) (l := ds) (d := ([], 0, 0)) (ys := ys.toList) (by
          have hall : (List.range vs.toArray.size).filter (fun _ => true) = List.range ds.length := by simp [hpS.length]
          rw [hall] at hpr
          exact hpr.mono fun j y h => h h9 fun _ _ _ e => e)
        simpa using this
      clear hpr F12 N12 hk9
      obtain ⟨nD, eD⟩ := id hpl
      have eD0 : D ≠ _ ∧ _ = none := ⟨ne_loc F5x hD, F5x.noneBack hD⟩
      repeat walk1
      obtain ⟨zs, hzs, hzt⟩ := strs_of (f := fun d => (⟨(runL d).toArray⟩ : Str)) hpr9
      have hlD : h9.IsList D (strValues zs).toArray := by
        rw [← hzs]
        exact ⟨_, eD, rfl, nD, rfl⟩
      have hjo := join_ok hbd hlen64
      refine SC.join hlD hzt hjo.1 fun t' k => ?_
      have hjl := hjo.2
      have hTx := fun (n : Int) (hn : n = ((tiesF l).length - 1 : Nat)) => text_is (ds := ds) (k := (tiesF l).length - 1) (by (first | (law_clear; lia) | omega)) hn
      with_reducible rename Fr _ _ _ _ => F5
      with_reducible rename News _ _ _ _ => N5
      have N6 := news_add2 F5 rR (N5 _ (List.Mem.head _)).1 rW (N5 _ (List.Mem.tail _ (List.Mem.head _))).1
      have hlR6 : Heap.IsList _ r us.toArray := ⟨oR, (N5 _ (List.Mem.head _)).1, cR, nR, dR⟩
      generalize hX : Txt.join (Str.ofString "") (ds.map fun d => (⟨(runL d).toArray⟩ : Str)) = X0' at hTx hjl ⊢
      repeat walk1
      refine ⟨?_⟩
      refine len_listN hlR6 hIr (by (first | (law_clear; lia) | omega)) ?_
      dsimp only
      repeat walk1
      refine ⟨?_⟩
      with_reducible rename Fr _ _ _ _ => F7
      with_reducible rename News _ _ _ _ => N7
      have hTx' := hTx ((tiesF l).length - 1 : Int) (by (first | (law_clear; lia) | omega))
      generalize hXX : X0' ++ Txt.mul (Str.ofString " ") ((tiesF l).length - 1 : Int) = XX at *
      have hXs : XX.cps.size ≤ 1000 := by
        have := plain_len hl
        rw [hds, ← hTx'] at this
        simpa using this
      have hXc : ∀ c ∈ XX.cps, c = 32 ∨ c = 9 := fun c hc => textL_chars _ _ c (by rw [← hTx']; simpa using hc)
      refine ws_spec _ _ hXc hXs (by first | exact room1 (by assumption) (by rfl) | exact room0 (by assumption) (by rfl) | (simp only [Around.deeper]; (first | (law_clear; lia) | omega))) (by first | exact room1 (by assumption) (by rfl) | exact room0 (by assumption) (by rfl) | (simp only [Around.deeper]; (first | (law_clear; lia) | omega))) (X0.keeps F7.keep) (T0.keeps F7.keep) fun xo dx an ac ws k1 k2 k3 k4 k5 tn tt tb sm ka kc h11 tk11 hk11 gxo gdx gan gac hws nxo ndx nan nac => ?_
      dsimp only at hk11 nxo ndx nan nac
      have F8 := F7.keeps hk11
      have N8 := N7.grown hk11
      have N9 := news_new F7 nac gac (news_new F7 nan gan (news_new F7 ndx gdx (news_new F7 nxo gxo N8)))
      rw [hTx'] at N9 hws
      generalize hst : wsRun (textL ((tiesF l).length - 1) ds) = wst at N9 hws
      obtain ⟨cnt, bb, nn, nt⟩ := wst
      have hstX := hst
      rewrite [← hds] at hstX
      dsimp only at N9 hws
      clear F7 N7 N8 hlR6 F5x eD0 eD hlD hpr9 hpl
      clear hgo Sx hpS hlS hTx hjl hXs hXc hTx' hXX hX hjo hzs hzt hbd hlen64
      repeat walk1
      with_reducible rename Fr _ _ _ _ => F10
      with_reducible rename News _ _ _ _ => N10
      have nW := N10 _ (List.Mem.tail _ (List.Mem.tail _ (List.Mem.tail _ (List.Mem.tail _ (List.Mem.tail _ (List.Mem.head _))))))
      have N11 : News _ _ _ [_, _, _, _, _, _] := fun p hp => N10 p (mem_last hp)
      dsimp only
      refine st_cellN F10 N11 hW ?_ rfl rfl rfl fun h12 oW F12 N12 hW' => ?_
      · intro p hp v
        simp only [List.mem_cons, List.not_mem_nil, or_false] at hp
        rcases hp with rfl | rfl | rfl | rfl | rfl <;> dsimp only
        all_goals first | (rw [dR]; exact fun q => nomatch q) | (exact fun q => nomatch q)
      clear F10 N10 N11 nW hW
      dsimp only
      repeat walk1
      refine ⟨?_⟩
      with_reducible rename Fr _ _ _ _ => F13
      with_reducible rename News _ _ _ _ => N13
      have gR13 := (N13 _ (List.Mem.tail _ (List.Mem.tail _ (List.Mem.tail _ (List.Mem.tail _ (List.Mem.tail _ (List.Mem.head _))))))).1
      refine rows_spec _ us (tiesF l) 1 _ (.inl rfl) hTl.2 (fun t ht => allT_pos t (hTm t ht)) ⟨oR, gR13, cR, nR, dR⟩ hIr (by first | exact room1 (by assumption) (by rfl) | exact room0 (by assumption) (by rfl) | (simp only [Around.deeper]; (first | (law_clear; lia) | omega))) (by first | exact room1 (by assumption) (by rfl) | exact room0 (by assumption) (by rfl) | (simp only [Around.deeper]; (first | (law_clear; lia) | omega))) (X0.keeps F13.keep) (T0.keeps F13.keep) fun R h14 tk14 d14 ks1 hk14 hS14 hm14 hR14 => ?_
      dsimp only at hk14 hR14
      obtain ⟨oS, esS, epS, tS, gS, hS14'⟩ := id hS14
      have hSk : Kept (∀ h : Heap, h.get? R = some oS → SetIs (ledOf w) h R ks1) := ⟨fun h q => ⟨oS, esS, epS, tS, q, hS14'⟩⟩
      have hnd1 : ks1.Nodup := hS14'.2.2.2.2.1
      clear hS14 hS14'
      have F14 := F13.keeps hk14
      have N14 := news_new F13 hR14 gS (N13.grown hk14)
      clear F13 N13
      dsimp only
      repeat walk1
      with_reducible rename Fr _ _ _ _ => F15
      with_reducible rename News _ _ _ _ => N15
      have gS15 := (N15 _ (List.Mem.head _)).1
      have hS15 : SetIs (ledOf w) _ R ks1 := hSk.out _ gS15
      have h0k : (0 : Int) ∈ ks1 := (hm14 0).mpr (rows_zero _ _)
      refine max_my rfl hS15 (List.length_pos_of_mem h0k) fun mx tmx h16 d16 tk16 hmx hmx' hk16 => ?_
      dsimp only at hk16
      have F16 := F15.keeps hk16
      have N16 := N15.grown hk16
      clear F15 N15 hS15
      have hmx2 : 0 ≤ mx ∧ mx ≤ 600000 := rows_bound (by (first | (law_clear; lia) | omega)) (fun t ht => allT_pos t (hTm t ht)) mx ((hm14 mx).mp hmx)
      dsimp only
      repeat walk1
      refine ⟨?_⟩
      with_reducible rename Fr _ _ _ _ => F17
      with_reducible rename News _ _ _ _ => N17
      refine wpAny_with_toks (n := _) (Nat.le_refl _) (ap_spec _ _ (by (first | (law_clear; lia) | omega)) (by first | exact room1 (by assumption) (by rfl) | exact room0 (by assumption) (by rfl) | (simp only [Around.deeper]; (first | (law_clear; lia) | omega))) (by first | exact room1 (by assumption) (by rfl) | exact room0 (by assumption) (by rfl) | (simp only [Around.deeper]; (first | (law_clear; lia) | omega))) (X0.keeps F17.keep) (T0.keeps F17.keep) fun h18 tk18 t18 v18 hk18 hv18 htk18 => ?_)
      dsimp only at htk18 hk18
      have F18 := F17.keeps hk18
      have N18 := N17.grown hk18
      have hsz18 : v18.size ≤ 24 := by rw [hv18]; exact apw_size _ _
      clear F17 N17
      dsimp only
      repeat walk1
      refine ⟨?_⟩
      with_reducible rename Fr _ _ _ _ => F19
      with_reducible rename News _ _ _ _ => N19
      refine cnt_spec _ _ _ 65 (by decide) (by decide) (by (first | (law_clear; lia) | omega)) (by dsimp only; (first | (law_clear; lia) | omega)) (by first | exact room1 (by assumption) (by rfl) | exact room0 (by assumption) (by rfl) | (simp only [Around.deeper]; (first | (law_clear; lia) | omega))) (X0.keeps F19.keep) (T0.keeps F19.keep) fun h20 tk20 v20 t20 hk20 hv20 => ?_
      dsimp only at hk20
      have F20 := F19.keeps hk20
      have N20 := N19.grown hk20
      clear F19 N19
      dsimp only
      repeat walk1
      refine ⟨?_⟩
      with_reducible rename Fr _ _ _ _ => F21
      with_reducible rename News _ _ _ _ => N21
      have hcl : cnt.length ≤ 1000 ∧ bb ≤ 1000 := by
        have h1 := wsRun_bound (textL ((tiesF l).length - 1) ds)
        have h2 := plain_len hl
        rw [hds] at h2
        rw [hst] at h1
        dsimp only at h1
        (first | (law_clear; lia) | omega)
      have hgz := Nat.le_of_lt (Nat.lt_of_le_of_lt F21.above F21.ns.lt)
      have qac := N21 _ (List.Mem.tail _ (List.Mem.tail _ (List.Mem.head _)))
      have qan := N21 _ (List.Mem.tail _ (List.Mem.tail _ (List.Mem.tail _ (List.Mem.head _))))
      have qdx := N21 _ (List.Mem.tail _ (List.Mem.tail _ (List.Mem.tail _ (List.Mem.tail _ (List.Mem.head _)))))
      have qxo := N21 _ (List.Mem.tail _ (List.Mem.tail _ (List.Mem.tail _ (List.Mem.tail _ (List.Mem.tail _ (List.Mem.head _))))))
      dsimp only at qac qan qdx qxo
      show wpAny _ _ (call (.ref 95) [.ref xo]) _ _ _
      refine lr_spec _ F21.keep hgz xo dx an ac XX _ k1 k2 k3 k4 k5 _ tn _ tt sm ws cnt bb tb ka kc ⟨qxo.1, qxo.2.2⟩ ⟨qdx.1, qdx.2.2⟩ ⟨qan.1, qan.2.2⟩ ⟨qac.1, qac.2.2⟩ hws (by (first | (law_clear; lia) | omega)) (by first | exact room1 (by assumption) (by rfl) | exact room0 (by assumption) (by rfl) | (simp only [Around.deeper]; (first | (law_clear; lia) | omega))) (by first | exact room1 (by assumption) (by rfl) | exact room0 (by assumption) (by rfl) | (simp only [Around.deeper]; (first | (law_clear; lia) | omega))) X0 T0 fun h22 tk22 v22 t22 hk22 hv22 => ?_
      dsimp only at hk22
      have F22 := F21.keeps hk22
      have N22 := N21.grown hk22
      clear F21 N21 qac qan qdx qxo
      have gR22 := (N22 _ (List.Mem.tail _ (List.Mem.tail _ (List.Mem.tail _ (List.Mem.tail _ (List.Mem.tail _ (List.Mem.tail _ (List.Mem.head _)))))))).1
      have hlR22 : Heap.IsList h22 r us.toArray := ⟨oR, gR22, cR, nR, dR⟩
      have hE : v22 = if ((tiesF l).length : Int) - 1 > 5 - v20 then ((tiesF l).length : Int) - 1 else 5 - v20 := by
        rewrite [hv22]
        exact plain_run hl ((hm14 mx).mp hmx) (fun x hx => hmx' x ((hm14 x).mpr hx)) hstX hv18 hv20
      clear hv22 hv20
      dsimp only
      repeat walk1
      refine ⟨?_⟩
      refine len_listN hlR22 hIr (by (first | (law_clear; lia) | omega)) ?_
      dsimp only
      repeat walk1
      · exact absurd hE (by assumption)
      rename_i h23 tk23 F23 N23 hcmp
      clear hE hcmp
      refine wpAny_execs_nil ?_
      dsimp only
      repeat walk1
      have gS23 := (N23 _ (List.Mem.head _)).1
      have hS23 : SetIs (ledOf w) _ R ks1 := hSk.out _ gS23
      have hnt : (nt : Int) = ks1.length := plain_nt hl hstX hnd1 hm14
      refine ⟨?_⟩
      refine len_my hS23 ?_
      dsimp only
      repeat walk1
      · exact absurd hnt (by assumption)
      clear hS23
      refine wpAny_execs_nil ?_
      dsimp only
      repeat walk1
      refine ⟨?_⟩
      have hcn := wsRun_items (textL ((tiesF l).length - 1) ds)
      rw [hst] at hcn
      dsimp only at hcn
      have hcnl : (textL ((tiesF l).length - 1) ds).length ≤ 1000 := by
        rw [← hds]
        exact plain_len hl
      refine' ListComp_my ?hclos ?hcell ?hkind ?hnames ?_ ?hs
      case hclos => with_unfolding_all rfl
      case hcell => decide
      case hkind => with_unfolding_all rfl
      case hnames => decide
      case hs => intro _; with_unfolding_all rfl
      repeat walk1
      refine ⟨?_⟩
      with_reducible rename Fr _ _ _ _ => F24
      with_reducible rename News _ _ _ _ => N24
      refine len_tupN N24 (List.Mem.tail _ (List.Mem.tail _ (List.Mem.head _))) hws (by (first | (law_clear; lia) | omega)) ?_
      dsimp only
      repeat walk1
      rename_i h25 tk25 t25 u25 v25 hR25 F25 N25 hk25
      have gW25 := (N25 _ (List.Mem.tail _ (List.Mem.head _))).1
      have gac25 := (N25 _ (List.Mem.tail _ (List.Mem.tail _ (List.Mem.head _)))).1
      dsimp only at gW25 gac25 hR25 ⊢
      have hac25 : IsTup h25 ac ws.toArray := ⟨_, gac25, rfl, _, rfl⟩
      refine pyIter_range_src rfl hR25 (by (first | (law_clear; lia) | omega)) fun h₂ I3 fp wr St3 Sx => ?_
      refine ⟨⟨I3, fp, wr, _, _, St3, fun _ => true, fun j y _ => ∃ t, y = .int (cnt.getD j 0 * 2 ^ j) t, rfl, Sx.walks, ?_, Sx.start, Sx.lt, Sx.keep, Sx.new, Sx.size, Sx.live, go_name, ?_, ?_⟩⟩
      · have h64 : 1000 ≤ sizeLine := by decide
        (first | (law_clear; lia) | omega)
      · intro j v C h9 tk9 m hj hP htk F hgh all Nall Hall
        obtain ⟨tv, rfl⟩ := hP
        have e0 : (0 : Int) + (j : Int) * 1 = j := by (first | (law_clear; lia) | omega)
        rw [e0]
        clear e0
        refine wpAny_assign_Name (st_any F Nall rfl rfl fun h₃ F₃ N₃ => ?_)
        refine wpAny_tests_nil ?_
        rw [if_pos rfl]
        refine ⟨rfl, ?_⟩
        clear F
        have hcj := hcn _ (show cnt.getD j 0 ∈ cnt by simp only [List.getD, List.getElem?_eq_getElem hj, Option.getD_some]; exact List.getElem_mem hj)
        repeat walk1
        refine ⟨?_⟩
        refine lshift_int_small (by (first | (law_clear; lia) | omega)) (by (first | (law_clear; lia) | omega)) (by simp only [Int.toNat_natCast]; (first | (law_clear; lia) | omega)) ?_
        have F5 := ‹Fr h25 _ _ _›
        have N5 := ‹News h25 _ _ _›
        refine ⟨⟨_, _, _, rfl, F5, keeps_all Hall F5 N5 (fun _ q => q), fun h'' hh => ⟨_, rfl⟩⟩⟩
      · intro D h9 tk9 ys hD hpl hpr hk9
        dsimp only at hD hk9 ⊢
        have F26 := F25.keeps hk9
        have N26 := N25.grown hk9
        clear F25 N25
        have hI9 : IntsAre ys.toList _ := paired_ints hpr
        obtain ⟨nD9, eD9⟩ := id hpl
        have hlD9 : h9.IsList D ys.toList.toArray := ⟨_, eD9, rfl, nD9, rfl⟩
        repeat walk1
        refine ⟨?_⟩
        with_reducible rename Fr _ _ _ _ => F27
        with_reducible rename News _ _ _ _ => N27
        have gR27 := (N27 _ (List.Mem.tail _ (List.Mem.tail _ (List.Mem.tail _ (List.Mem.tail _ (List.Mem.tail _ (List.Mem.tail _ (List.Mem.head _)))))))).1
        refine rows_spec _ us (tiesF l) 2 _ (.inr rfl) hTl.2 (fun t ht => allT_pos t (hTm t ht)) ⟨oR, gR27, cR, nR, dR⟩ hIr (by first | exact room1 (by assumption) (by rfl) | exact room0 (by assumption) (by rfl) | (simp only [Around.deeper]; (first | (law_clear; lia) | omega))) (by first | exact room1 (by assumption) (by rfl) | exact room0 (by assumption) (by rfl) | (simp only [Around.deeper]; (first | (law_clear; lia) | omega))) (X0.keeps F27.keep) (T0.keeps F27.keep) fun R2 h28 tk28 d28 ks2 hk28 hS28 hm28 hR28 => ?_
        dsimp only at hk28 hR28
        have hsum := plain_sum hl hstX hS28.nodup hm28
        have F28 := F27.keeps hk28
        have N28 := N27.grown hk28
        clear F27 N27
        dsimp only
        repeat walk1
        refine ⟨?_⟩
        refine len_my hS28 ?_
        clear hS28
        dsimp only
        walk1
        rw [hsum, beq_self_eq_true]
        exact hQQ _ _ (goodW_bool F28 (by assumption) (none_raised _) (post_true _)))
end
end Mine
theorem PySem.Challenge.cw_wn0101_01_holds : PySem.Challenge.rw_wn0101_01.Holds := by
  exact Mine.start
