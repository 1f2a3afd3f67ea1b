import PyProof.Rows.All
import Wide.All
import OpenK.AllK
import Wide.FinOn
import PySem.Challenge.RW_wy0065_01
set_option Elab.async false
/-! H1 -/
namespace Mine
set_option maxRecDepth 100000
def rot (x : Nat) : Nat := (x * 2147483648) % 18446744073709551616 + x / 8589934592
/-- the other way round -/
def unrot (y : Nat) : Nat := (y % 2147483648) * 8589934592 + y / 2147483648
theorem rot_eq {x : Nat} (h : x < 18446744073709551616) : rot x = (x % 8589934592) * 2147483648 + x / 8589934592 := by
  unfold rot
  have : (x * 2147483648) % 18446744073709551616 = (x % 8589934592) * 2147483648 := by
    rw [show (18446744073709551616 : Nat) = 8589934592 * 2147483648 from by decide, Nat.mul_mod_mul_right]
  omega
theorem rot_lt {x : Nat} (h : x < 18446744073709551616) : rot x < 18446744073709551616 := by rw [rot_eq h]; omega
theorem unrot_rot {x : Nat} (h : x < 18446744073709551616) : unrot (rot x) = x := by
  have e2 : x / 8589934592 < 2147483648 := by omega
  unfold unrot
  rw [rot_eq h]
  omega
theorem mul_back {x : Nat} (h : x < 18446744073709551616) : (((x * 11400714785074694791) % 18446744073709551616) * 614540362697595703) % 18446744073709551616 = x := by
  rw [Nat.mod_mul_mod, Nat.mul_assoc, ← Nat.mul_mod_mod]
  rw [show (11400714785074694791 * 614540362697595703) % 18446744073709551616 = 1 from by decide +kernel, Nat.mul_one, Nat.mod_eq_of_lt h]

def stp (a l : Nat) : Nat := (rot ((a + l * 14029467366897019727) % 18446744073709551616) * 11400714785074694791) % 18446744073709551616
def fin3 (z : Nat) : Nat := ((rot z * 11400714785074694791) % 18446744073709551616 + 2870177450013471925) % 18446744073709551616
def bk (f : Nat) : Nat := unrot (((f + 15576566623696079691) % 18446744073709551616) * 614540362697595703 % 18446744073709551616)
theorem add_back {v : Nat} (h : v < 18446744073709551616) : (((v + 2870177450013471925) % 18446744073709551616) + 15576566623696079691) % 18446744073709551616 = v := by omega
theorem bk_fin3 {z : Nat} (h : z < 18446744073709551616) : bk (fin3 z) = z := by
  unfold bk fin3
  rw [add_back (Nat.mod_lt _ (by decide)), mul_back (rot_lt h), unrot_rot h]
theorem stp_lt (a l : Nat) : stp a l < 18446744073709551616 := Nat.mod_lt _ (by decide)
theorem lin_inj {a r q : Nat} (hr : r < 5) (hq : q < 5) (h : (a + r * 14029467366897019727) % 18446744073709551616 = (a + q * 14029467366897019727) % 18446744073709551616) : r = q := by
  have hr' : r = 0 ∨ r = 1 ∨ r = 2 ∨ r = 3 ∨ r = 4 := by clear h; omega
  have hq' : q = 0 ∨ q = 1 ∨ q = 2 ∨ q = 3 ∨ q = 4 := by clear h; omega
  rcases hr' with rfl | rfl | rfl | rfl | rfl <;> rcases hq' with rfl | rfl | rfl | rfl | rfl <;> first | rfl | (exfalso; omega)
theorem stp_back (a l : Nat) : unrot (stp a l * 614540362697595703 % 18446744073709551616) = (a + l * 14029467366897019727) % 18446744073709551616 := by
  unfold stp
  rw [mul_back (rot_lt (Nat.mod_lt _ (by decide))), unrot_rot (Nat.mod_lt _ (by decide))]
theorem stp_inj {a r q : Nat} (hr : r < 5) (hq : q < 5) (h : stp a r = stp a q) : r = q :=
  lin_inj hr hq ((stp_back a r).symm.trans ((congrArg (fun v => unrot (v * 614540362697595703 % 18446744073709551616)) h).trans (stp_back a q)))

theorem shift {a l z : Nat} : ((stp a l + z) * 614540362697595703) % 18446744073709551616 = (rot ((a + l * 14029467366897019727) % 18446744073709551616) + (z * 614540362697595703) % 18446744073709551616) % 18446744073709551616 := by
  have hx : (a + l * 14029467366897019727) % 18446744073709551616 < 18446744073709551616 := Nat.mod_lt _ (by decide)
  rw [Nat.add_mul, Nat.add_mod]
  unfold stp
  rw [mul_back (rot_lt hx)]

theorem bk_top : bk 18446744073709551615 = 1837738906727985164 := by decide +kernel
theorem bk_odd : bk 1546275796 = 8570342753019038081 := by decide +kernel

theorem sp1 {h l : Nat} (b : l < 8589934592) : (h * 8589934592 + l) % 8589934592 = l ∧ (h * 8589934592 + l) / 8589934592 = h := by omega
theorem clash_core {x y r q : Nat} (hr : r < 5) (hq : q < 5) (hx : x < 18446744073709551616) (hy : y < 18446744073709551616) (hc : (x + q * 14029467366897019727) % 18446744073709551616 = (y + r * 14029467366897019727) % 18446744073709551616)
    (e2 : (rot x + 9619280705401546167) % 18446744073709551616 = (rot y + 9212877264793966228) % 18446744073709551616) : r = q := by
  rw [rot_eq hx, rot_eq hy] at e2
  obtain ⟨xh, xl, ex, b1, b2⟩ : ∃ xh xl, x = xh * 8589934592 + xl ∧ xh < 2147483648 ∧ xl < 8589934592 := ⟨x / 8589934592, x % 8589934592, by omega, by omega, by omega⟩
  obtain ⟨yh, yl, ey, b3, b4⟩ : ∃ yh yl, y = yh * 8589934592 + yl ∧ yh < 2147483648 ∧ yl < 8589934592 := ⟨y / 8589934592, y % 8589934592, by omega, by omega, by omega⟩
  subst ex ey
  rw [(sp1 b2).1, (sp1 b2).2, (sp1 b4).1, (sp1 b4).2] at e2
  clear hx hy
  have hr' : r = 0 ∨ r = 1 ∨ r = 2 ∨ r = 3 ∨ r = 4 := by omega
  have hq' : q = 0 ∨ q = 1 ∨ q = 2 ∨ q = 3 ∨ q = 4 := by omega
  rcases hr' with rfl | rfl | rfl | rfl | rfl <;> rcases hq' with rfl | rfl | rfl | rfl | rfl <;> first | rfl | (exfalso; omega)

theorem clash {a k r q : Nat} (hr : r < 5) (hq : q < 5) (h1 : fin3 ((stp a r + k) % 18446744073709551616) = 18446744073709551615) (h2 : fin3 ((stp a q + k) % 18446744073709551616) = 1546275796) : r = q := by
  have z1 : (stp a r + k) % 18446744073709551616 = 1837738906727985164 := by rw [← bk_fin3 (Nat.mod_lt (stp a r + k) (by decide)), h1, bk_top]
  have z2 : (stp a q + k) % 18446744073709551616 = 8570342753019038081 := by rw [← bk_fin3 (Nat.mod_lt (stp a q + k) (by decide)), h2, bk_odd]
  have e : (stp a r + 8570342753019038081) % 18446744073709551616 = (stp a q + 1837738906727985164) % 18446744073709551616 := by omega
  have e2 : ((stp a r + 8570342753019038081) * 614540362697595703) % 18446744073709551616 = ((stp a q + 1837738906727985164) * 614540362697595703) % 18446744073709551616 := by
    rw [← Nat.mod_mul_mod, e, Nat.mod_mul_mod]
  rw [shift, shift, show (8570342753019038081 * 614540362697595703) % 18446744073709551616 = 9619280705401546167 from by decide +kernel, show (1837738906727985164 * 614540362697595703) % 18446744073709551616 = 9212877264793966228 from by decide +kernel] at e2
  refine clash_core hr hq (Nat.mod_lt _ (by decide)) (Nat.mod_lt _ (by decide)) ?_ e2
  rw [Nat.mod_add_mod, Nat.mod_add_mod, Nat.add_right_comm]

def outOf (f : Nat) : Int := if f == 18446744073709551616 - 1 then 1546275796 else if f < 9223372036854775808 then (f : Int) else (f : Int) - (18446744073709551616 : Nat)
theorem fin3_lt (z : Nat) : fin3 z < 18446744073709551616 := Nat.mod_lt _ (by decide)
theorem out_inj {a k r q : Nat} (hr : r < 5) (hq : q < 5) (h : outOf (fin3 ((stp a r + k) % 18446744073709551616)) = outOf (fin3 ((stp a q + k) % 18446744073709551616))) : r = q := by
  have hf := fin3_lt ((stp a r + k) % 18446744073709551616)
  have hg := fin3_lt ((stp a q + k) % 18446744073709551616)
  have key : ∀ f g : Nat, f < 18446744073709551616 → g < 18446744073709551616 → outOf f = outOf g → f = g ∨ (f = 18446744073709551615 ∧ g = 1546275796) ∨ (g = 18446744073709551615 ∧ f = 1546275796) := by
    intro f g hf hg h
    unfold outOf at h
    simp only [beq_iff_eq] at h
    split at h <;> split at h <;> (try split at h) <;> (try split at h) <;> omega
  rcases key _ _ hf hg h with e | ⟨e1, e2⟩ | ⟨e1, e2⟩
  · have e' := congrArg bk e
    rw [bk_fin3 (Nat.mod_lt _ (by decide)), bk_fin3 (Nat.mod_lt _ (by decide))] at e'
    have s1 := stp_lt a r
    have s2 := stp_lt a q
    exact stp_inj (a := a) hr hq (by omega)
  · exact clash hr hq e1 e2
  · exact (clash hq hr e1 e2).symm
end Mine
/-! M1 -/
namespace Mine
open PySem PySem.W PyProof.Rows PySem.Calls
set_option maxRecDepth 100000

/-! ### heaps that grow -/
def Ext (h h' : Heap) : Prop := ∀ b o, h.get? b = some o → h'.get? b = some o
theorem Ext.refl (h : Heap) : Ext h h := fun _ _ e => e
theorem Ext.trans {a b c : Heap} (x : Ext a b) (y : Ext b c) : Ext a c := fun p o e => y p o (x p o e)
theorem Ext.push (h : Heap) (o : Obj) : Ext h (h.push o) := fun _ _ e => Heap.get?_push_of_some o e

/-! ### the keys: tuples ('file', r, 'f') -/
abbrev fileS : Str := Str.ofString "file"
abbrev fS : Str := Str.ofString "f"

def mixIs : Str ⊕ Int → Value → Bool
  | .inl x, v => Value.isStrOf x v
  | .inr n, v => Value.isInt n v
def mixHash (w : World) : Str ⊕ Int → Int
  | .inl x => hashStr w x
  | .inr n => hashInt n

theorem mixIs_inl {x : Str} {v : Value} (h : mixIs (.inl x) v = true) : ∃ t, v = .str x t := Value.isStrOf_shape h
theorem mixIs_inr {n : Int} {v : Value} (h : mixIs (.inr n) v = true) : ∃ t, v = .int n t := Value.isInt_shape h

def mixK (prog : Program) (w : World) : KeyKind prog w (Str ⊕ Int) where
  is := mixIs
  hash := mixHash w
  inj := fun v a b ha hb => by
    cases a with
    | inl x =>
      obtain ⟨t, rfl⟩ := mixIs_inl ha
      cases b with
      | inl y => obtain ⟨u, e⟩ := mixIs_inl hb; cases e; rfl
      | inr n => obtain ⟨u, e⟩ := mixIs_inr hb; cases e
    | inr n =>
      obtain ⟨t, rfl⟩ := mixIs_inr ha
      cases b with
      | inl y => obtain ⟨u, e⟩ := mixIs_inl hb; cases e
      | inr k => obtain ⟨u, e⟩ := mixIs_inr hb; cases e; rfl
  byValue := fun k v h => by
    cases k with
    | inl x => obtain ⟨t, rfl⟩ := mixIs_inl h; rfl
    | inr n => obtain ⟨t, rfl⟩ := mixIs_inr h; rfl
  pyHash := fun {A E s k v Q} hv h => by
    cases k with
    | inl x => obtain ⟨t, rfl⟩ := mixIs_inl hv; exact wpAny_pyHash_str h
    | inr n => obtain ⟨t, rfl⟩ := mixIs_inr hv; exact wpAny_pyHash_int h
  eqBool := fun {A E s a b u v Q} hu hv h => by
    cases a with
    | inl x =>
      obtain ⟨t, rfl⟩ := mixIs_inl hu
      cases b with
      | inl y => obtain ⟨t', rfl⟩ := mixIs_inl hv; exact wpAny_eqBool_str (by simpa using h)
      | inr n => obtain ⟨t', rfl⟩ := mixIs_inr hv; exact SeqAt.EqAt.str_int x t n t' _ _ _ _ (by simpa using h)
    | inr n =>
      obtain ⟨t, rfl⟩ := mixIs_inr hu
      cases b with
      | inl y => obtain ⟨t', rfl⟩ := mixIs_inl hv; exact SeqAt.EqAt.int_str n t y t' _ _ _ _ (by simpa using h)
      | inr k =>
        obtain ⟨t', rfl⟩ := mixIs_inr hv
        have q : (n == k) = decide ((Sum.inr n : Str ⊕ Int) = Sum.inr k) := by
          by_cases e : n = k
          · subst e; simp
          · have e2 : ¬ (Sum.inr n : Str ⊕ Int) = Sum.inr k := fun z => e (Sum.inr.inj z)
            rw [decide_eq_false e2]; simpa using e
        exact wpAny_eqBool_int (by rw [q]; exact h)
  «strs» := fun k x t v h => by
    cases k with
    | inl y =>
      obtain ⟨u, e⟩ := mixIs_inl h
      cases e
      show Value.isStrOf _ v = _
      cases v <;> rfl
    | inr n => obtain ⟨u, e⟩ := mixIs_inr h; cases e

theorem mixK_is (prog : Program) (w : World) (k : Str ⊕ Int) (v : Value) : (mixK prog w).is k v = mixIs k v := rfl

def kl (r : Int) : List (Str ⊕ Int) := [.inl fileS, .inr r, .inl fS]
theorem kl_inj {a b : Int} (h : kl a = kl b) : a = b := by simpa [kl] using h

def IsKey (h : Heap) (r : Int) (a : Addr) : Prop :=
  ∃ o t1 t2 t3 n, h.get? a = some o ∧ o.cls = .type "tuple" ∧ o.data = .seq #[.str fileS t1, .int r t2, .str fS t3] n

theorem IsKey.ext {h h' : Heap} {r : Int} {a : Addr} (x : IsKey h r a) (e : Ext h h') : IsKey h' r a :=
  let ⟨o, t1, t2, t3, n, ho, r⟩ := x; ⟨o, t1, t2, t3, n, e _ _ ho, r⟩
theorem IsKey.inj {h : Heap} {a : Addr} {x y : Int} (hx : IsKey h x a) (hy : IsKey h y a) : x = y := by
  obtain ⟨o, t1, t2, t3, n, ho, _, hd⟩ := hx
  obtain ⟨o', u1, u2, u3, n', ho', _, hd'⟩ := hy
  obtain rfl : o = o' := Option.some.inj (ho.symm.trans ho')
  rw [hd] at hd'
  injection hd' with h1 _
  simp at h1
  exact h1.2.1.1
theorem IsKey.tk {prog : Program} {w : World} {h : Heap} {r : Int} {a : Addr} (x : IsKey h r a) : IsTupleKey (mixK prog w) h (kl r) a := by
  obtain ⟨o, t1, t2, t3, n, ho, hc, hd⟩ := x
  refine ⟨o, _, n, ho, hc, hd, ?_⟩
  refine .cons ?_ (.cons ?_ (.cons ?_ .nil))
  · rw [mixK_is]; simp [mixIs, Value.isStrOf]
  · rw [mixK_is]; simp [mixIs, Value.isInt]
  · rw [mixK_is]; simp [mixIs, Value.isStrOf]

def kk0 (prog : Program) (w : World) : HeapKind prog w Int where
  is := IsKey
  hash := fun r => tupleKeyHash (mixK prog w) (kl r)
  draws := fun _ => 4
  room := fun A => A.units < cLine
  inj := fun hx hy => hx.inj hy
  keeps := fun {h h' k a d o es ep} x ho hd hs => by
    obtain ⟨o', t1, t2, t3, n, ho', hc, hd'⟩ := x
    have hne : a ≠ d := by
      rintro rfl
      obtain rfl : o' = o := Option.some.inj (ho'.symm.trans ho)
      rw [hd] at hd'; exact nomatch hd'
    exact ⟨o', t1, t2, t3, n, (hs.2 a hne).trans ho', hc, hd'⟩
  pyHash := fun hu hk h => wpAny_pyHash_tuple hu hk.tk (by simpa [kl] using h)
  eqBool := fun {A E s x y a b Q} hu hx hy h => wpAny_eqBool_tuple hu (hx.tk (prog := prog) (w := w)) hy.tk (by
    have : decide (kl x = kl y) = decide (x = y) := by
      by_cases e : x = y
      · simp [e]
      · have : ¬ kl x = kl y := fun q => e (kl_inj q)
        simp [e, this]
    rw [this]; exact h)
  quiet := fun hk h => wpAny_eqIsQuiet_tuple hk.tk h

theorem IsKey.eqAt {A : Around} {s : Shared} {x y : Int} {a b : Addr} (hu : A.units < cLine) (hx : IsKey s.heap x a) (hy : IsKey s.heap y b) : SeqAt.EqAt A s (.ref a) (.ref b) (decide (x = y)) :=
  fun prog w _ _ h => (kk0 prog w).eqBool hu hx hy h

end Mine
/-! M2 -/
namespace Mine
open PySem PySem.W PyProof.Rows PySem.Calls
set_option maxRecDepth 100000

/-! ### a dict by its raw entries -/
def Raw (h : Heap) (d : Addr) (es : Array DictEntry) (ep : Nat) : Prop := ∃ o, h.get? d = some o ∧ o.ExactDict ∧ o.data = .dict es ep
theorem Raw.ext {h h' : Heap} {d : Addr} {es ep} (x : Raw h d es ep) (e : Ext h h') : Raw h' d es ep := let ⟨o, ho, r⟩ := x; ⟨o, e _ _ ho, r⟩
theorem Raw.at {h h' : Heap} {d : Addr} {es ep} (x : Raw h d es ep) (e : ∀ o, h.get? d = some o → h'.get? d = some o) : Raw h' d es ep := let ⟨o, ho, r⟩ := x; ⟨o, e _ ho, r⟩
theorem Raw.typeIs {s : Shared} {d : Addr} {es ep} (x : Raw s.heap d es ep) : s.TypeIs (.ref d) "dict" := let ⟨o, ho, hc, _⟩ := x; ⟨o, ho, hc.1⟩
theorem Raw.lt {h : Heap} {d : Addr} {es ep} (x : Raw h d es ep) : d < h.objs.size := let ⟨_, ho, _⟩ := x; Heap.lt_size ho
theorem Raw.push {h : Heap} {d : Addr} {es ep} (x : Raw h d es ep) (o : Obj) : Raw (h.push o) d es ep := x.ext (Ext.push h o)

section
variable {prog : Program} {w : World} {A : Around} {E : Value → Shared → Prop} {s : Shared}

theorem raw_pyIter {d : Addr} {es : Array DictEntry} {ep : Nat} {Q : Value → Shared → Prop} (hd : (d == sysModules) = false) (hm : Raw s.heap d es ep)
    (hQ : Q (.ref s.heap.objs.size) { s with heap := s.heap.push { cls := .type "dict_keyiterator", data := .fields #[.ref d, .int 0 0, .int es.size 0, .int ep 0] } }) :
    wpAny (model prog w) A (pyIter (.ref d)) Q E s := by
  obtain ⟨o, ho, hc, hdat⟩ := id hm
  refine wpAny_pyIter_slot hm.typeIs F.slot_dict_iter (wpAny_call_entry F.slot_dict_iter hm.typeIs F.entry_dict_iter ?_ (F.args_dict_iter_1 _))
  unfold Builtin.«dict.__iter__»
  refine wpAny_bind ?_
  unfold Builtin.Dict.dictSlotNone
  refine wpAny_bind (wpAny_notOrdered_dict hm.typeIs ?_)
  show wpAny _ _ (pure (Value.ref d)) _ _ s
  refine wpAny_pure ?_
  refine wpAny_bind (m := Builtin.Dict.addrOf (.ref d)) (wpAny_pure ?_)
  unfold Builtin.Dict.showsAll
  rw [if_neg (by rw [hd]; exact Bool.false_ne_true)]
  refine wpAny_bind (wpAny_pure ?_)
  refine wpAny_bind (wpAny_dictEntries ho hdat ?_)
  refine wpAny_bind (wpAny_dictEpoch ho hdat ?_)
  refine wpAny_bind (wpAny_newObj_type (wpAny_pure ⟨_, rfl, "dict_keyiterator", _, ⟨_, Heap.get?_push_size _ rfl, rfl⟩, F.slot_dict_keyiterator_next.lookup, ?_⟩))
  simpa [rawInt] using hQ

theorem raw_next_key {it d : Addr} {i ep : Nat} {es : Array DictEntry} {e : DictEntry} {Q : Option Value → Shared → Prop} (hit : s.heap.IsKeyIter it d i es.size ep)
    (hm : Raw s.heap d es ep) (hx : es[i]? = some e)
    (hQ : ∀ h', h'.IsKeyIter it d (i + 1) es.size ep → Heap.SameBut it s.heap h' → Q (some e.key) { s with heap := h' }) :
    wpAny (model prog w) A (pyNext (.ref it)) Q E s := by
  obtain ⟨o, ho, hc, hd⟩ := id hit
  obtain ⟨od, hod, hcd, hdd⟩ := id hm
  unfold pyNext
  refine wpAny_bind (wpAny_attempt (wpAny_callSpecial?_slot (name := Str.ofString "__next__") hit.typeIs F.slot_dict_keyiterator_next
    (wpAny_call_entry F.slot_dict_keyiterator_next hit.typeIs F.entry_dict_keyiterator_next ?_ (F.args_dict_keyiterator_next_1 _))))
  refine wpAny_bind (wpAny_pure ?_)
  refine wpAny_bind ?_
  refine wpAny_bind ?_
  refine wpAny_bind (wpAny_typeNameOfWhole_keyiter hit.typeIs (wpAny_pure ?_))
  refine wpAny_bind (wpAny_fieldsOf ho hd ?_)
  have hown : Builtin.Dict_items.ownsTuple "dict_keyiterator" = false := by decide
  simp only [hown, Bool.false_eq_true, if_false]
  show wpAny _ _ (if (Value.ref d == Value.none) = true then _ else _) _ _ s
  rw [if_neg (show ¬ ((Value.ref d == Value.none) = true) from Bool.false_ne_true)]
  refine wpAny_bind (wpAny_pure ?_)
  refine wpAny_bind (wpAny_dictEntries hod hdd ?_)
  rw [if_neg (by simp)]
  refine wpAny_bind (wpAny_pure ?_)
  refine wpAny_bind (wpAny_dictEpoch hod hdd ?_)
  rw [if_neg (by simp)]
  refine wpAny_pure ?_
  simp only [show ¬ ((i : Int) < 0) from by omega, if_false, Int.toNat_natCast, hx]
  refine wpAny_bind ?_
  refine wpAny_bind (wpAny_typeNameOfWhole_keyiter hit.typeIs (wpAny_pure ?_))
  refine wpAny_bind (wpAny_isOneOf_keyiter hit.typeIs ?_)
  show wpAny _ _ (setField (.ref it) 1 (rawInt ((i : Int) + 1)) >>= _) _ _ s
  refine wpAny_bind (wpAny_setField ho hd (by simp) ?_)
  have hit' : (s.heap.update it (Obj.mapFields (·.setIfInBounds 1 (rawInt ((i : Int) + 1))))).IsKeyIter it d (i + 1) es.size ep :=
    ⟨_, Heap.get?_update_self _ ho (Obj.isFreed_of_fields (Obj.data_mapFields hd _)), (Obj.cls_mapFields ..).trans hc, by rw [Obj.data_mapFields hd]; simp [rawInt]⟩
  refine wpAny_bind (wpAny_holding ?_)
  refine wpAny_bind (wpAny_isOneOf_keyiter (s := { s with heap := s.heap.update it (Obj.mapFields (·.setIfInBounds 1 (rawInt ((i : Int) + 1)))) }) hit'.typeIs ?_)
  show wpAny _ _ (pure e.key) _ _ _
  exact wpAny_pure (wpAny_pure ⟨_, rfl, wpAny_pure (hQ _ hit' (Heap.SameBut.update ..))⟩)

theorem stop_iter_end {it : Addr} {k : Nat} {o : Obj} {vs : Array Value} {P : PySem.Fin → Shared → Prop} (hh : A.handled = none) (ho : s.heap.get? it = some o) (hd : o.data = .fields vs) (hk : k < vs.size)
    (h : ∀ h' a, Heap.ExtBut it s.heap h' → Shared.TypeIs { s with heap := h' } (.ref a) "StopIteration" → E (.ref a) { s with heap := h' }) :
    wpAny (model prog w) A (setField (.ref it) k .none >>= fun _ => newExc (.type "StopIteration") [] >>= fun x => (raiseNew x : Sem PySem.Fin)) P E s := by
  refine wpAny_bind (wpAny_setField ho hd hk ?_)
  refine wpAny_bind ?_
  simp only [newExc, newTuple]
  refine wpAny_bind (wpAny_newObj_type ?_ (by size_fits))
  refine wpAny_bind (m := firstArgMember _ _) (wpAny_of_eq (a := Value.none) (by first | rfl | (simp only [firstArgMember]; rfl)) ?_)
  refine wpAny_newObj_type ?_ (by size_fits)
  simp only [raiseNew]
  refine wpAny_bind (wpAny_handled ?_)
  rw [hh]
  exact wpAny_bind (wpAny_pure (wpAny_throw (h _ _ (((Heap.SameBut.update ..).extBut.push _).push _) ⟨_, Heap.get?_push_size _ rfl, rfl⟩)))

theorem raw_next_key_end {it d : Addr} {i ep : Nat} {es : Array DictEntry} {Q : Option Value → Shared → Prop} (hh : A.handled = none) (hit : s.heap.IsKeyIter it d i es.size ep)
    (hm : Raw s.heap d es ep) (hx : es.size ≤ i)
    (hQ : ∀ h', Heap.ExtBut it s.heap h' → Q none { s with heap := h' }) : wpAny (model prog w) A (pyNext (.ref it)) Q E s := by
  obtain ⟨o, ho, hc, hd⟩ := id hit
  obtain ⟨od, hod, hcd, hdd⟩ := id hm
  unfold pyNext
  refine wpAny_bind (wpAny_attempt (wpAny_callSpecial?_slot (name := Str.ofString "__next__") hit.typeIs F.slot_dict_keyiterator_next
    (wpAny_call_entry F.slot_dict_keyiterator_next hit.typeIs F.entry_dict_keyiterator_next ?_ (F.args_dict_keyiterator_next_1 _))))
  refine wpAny_bind (wpAny_pure ?_)
  refine wpAny_bind ?_
  refine wpAny_bind ?_
  refine wpAny_bind (wpAny_typeNameOfWhole_keyiter hit.typeIs (wpAny_pure ?_))
  refine wpAny_bind (wpAny_fieldsOf ho hd ?_)
  have hown : Builtin.Dict_items.ownsTuple "dict_keyiterator" = false := by decide
  simp only [hown, Bool.false_eq_true, if_false]
  show wpAny _ _ (if (Value.ref d == Value.none) = true then _ else _) _ _ s
  rw [if_neg (show ¬ ((Value.ref d == Value.none) = true) from Bool.false_ne_true)]
  refine wpAny_bind (wpAny_pure ?_)
  refine wpAny_bind (wpAny_dictEntries hod hdd ?_)
  rw [if_neg (by simp)]
  refine wpAny_bind (wpAny_pure ?_)
  refine wpAny_bind (wpAny_dictEpoch hod hdd ?_)
  rw [if_neg (by simp)]
  refine wpAny_pure ?_
  simp only [show ¬ ((i : Int) < 0) from by omega, if_false, Int.toNat_natCast, Array.getElem?_eq_none hx]
  refine wpAny_bind ?_
  refine wpAny_bind (wpAny_typeNameOfWhole_keyiter hit.typeIs (wpAny_pure ?_))
  rw [hown, if_neg Bool.false_ne_true]
  refine stop_iter_end (A := A.in1) hh ho hd (by simp) fun h' a hs' hT => ?_
  refine wpAny_bind (wpAny_isInstance (T := "StopIteration") (b := true) hT isSubtype_stop ?_)
  exact wpAny_pure (hQ _ hs')

/-! values -/
theorem raw_noArgs {nm : String} {d : Addr} {es : Array DictEntry} {ep : Nat} {Q : Addr → Shared → Prop} (hm : Raw s.heap d es ep) (h : Q d s) :
    wpAny (model prog w) A (Builtin.Dict.noArgs nm ⟨[.ref d], []⟩) Q E s := by
  unfold Builtin.Dict.noArgs
  refine wpAny_bind (wpAny_notOrdered_dict hm.typeIs ?_)
  show wpAny _ _ (pure d) _ _ s
  exact wpAny_pure h

theorem shows_all {d : Addr} {Q : Unit → Shared → Prop} (hd : (d == sysModules) = false) (h : Q () s) : wpAny (model prog w) A (Builtin.Dict.showsAll d) Q E s := by
  unfold Builtin.Dict.showsAll
  rw [if_neg (by rw [hd]; exact Bool.false_ne_true)]
  exact wpAny_pure h

theorem raw_values {d : Addr} {es : Array DictEntry} {ep : Nat} {Q : Value → Shared → Prop} {pos : Pos} (hd : (d == sysModules) = false) (hm : Raw s.heap d es ep)
    (h : Q (.ref s.heap.objs.size) { s with heap := s.heap.push { cls := .type "dict_values", data := .fields #[.ref d] } }) :
    wpAny (model prog w) A (callWith pos (.builtin "dict.values") [.ref d] [] []) Q E s := by
  refine callWith_builtin rfl (PySem.evalArgs_none ?_)
  refine wpAny_call_entry F.slot_dict_values hm.typeIs F.entry_dict_values ?_ (F.args_dict_values_1 _)
  refine wpAny_bind (raw_noArgs hm ?_)
  refine wpAny_bind (shows_all hd ?_)
  exact wpAny_bind (wpAny_newObj_type (wpAny_pure ⟨_, rfl, h⟩))

theorem raw_items {d : Addr} {es : Array DictEntry} {ep : Nat} {Q : Value → Shared → Prop} {pos : Pos} (hd : (d == sysModules) = false) (hm : Raw s.heap d es ep)
    (h : Q (.ref s.heap.objs.size) { s with heap := s.heap.push { cls := .type "dict_items", data := .fields #[.ref d] } }) :
    wpAny (model prog w) A (callWith pos (.builtin "dict.items") [.ref d] [] []) Q E s := by
  refine callWith_builtin rfl (PySem.evalArgs_none ?_)
  refine wpAny_call_entry F.slot_dict_items hm.typeIs F.entry_dict_items ?_ (F.args_dict_items_1 _)
  refine wpAny_bind (raw_noArgs hm ?_)
  refine wpAny_bind (shows_all hd ?_)
  exact wpAny_bind (wpAny_newObj_type (wpAny_pure ⟨_, rfl, h⟩))

theorem raw_iter_values {v d : Addr} {es : Array DictEntry} {ep : Nat} {Q : Value → Shared → Prop} (hv : s.heap.IsValuesView v d) (hm : Raw s.heap d es ep)
    (hQ : Q (.ref s.heap.objs.size) { s with heap := s.heap.push { cls := .type "dict_valueiterator", data := .fields #[.ref d, .int 0 0, .int es.size 0, .int ep 0] } }) :
    wpAny (model prog w) A (pyIter (.ref v)) Q E s := by
  obtain ⟨ov, hov, hcv, hdv⟩ := id hv
  obtain ⟨o, ho, hc, hdat⟩ := id hm
  refine wpAny_pyIter_slot hv.typeIs F.slot_dict_values_iter (wpAny_call_entry F.slot_dict_values_iter hv.typeIs F.entry_dict_values_iter ?_ (F.args_dict_values_iter_1 _))
  unfold Builtin.«dict_values.__iter__»
  refine wpAny_bind (wpAny_pure ?_)
  refine wpAny_bind ?_
  unfold Builtin.Dict_items.dictOf
  refine wpAny_bind (wpAny_field hov hdv (x := .ref d) rfl (wpAny_pure ?_))
  refine wpAny_bind ?_
  unfold Builtin.Dict_items.newIterator
  refine wpAny_bind (wpAny_dictEntries ho hdat ?_)
  refine wpAny_bind (wpAny_dictEpoch ho hdat ?_)
  have hown : Builtin.Dict_items.ownsTuple "dict_valueiterator" = false := by decide
  simp only [hown, Bool.false_eq_true, if_false]
  refine wpAny_newObj_type (wpAny_pure ⟨_, rfl, "dict_valueiterator", _, ⟨_, Heap.get?_push_size _ rfl, rfl⟩, F.slot_dict_valueiterator_next.lookup, ?_⟩)
  simpa [rawInt] using hQ

theorem raw_next_value {it d : Addr} {i ep : Nat} {es : Array DictEntry} {e : DictEntry} {Q : Option Value → Shared → Prop} (hit : s.heap.IsValIter it d i es.size ep)
    (hm : Raw s.heap d es ep) (hx : es[i]? = some e)
    (hQ : ∀ h', h'.IsValIter it d (i + 1) es.size ep → Heap.SameBut it s.heap h' → Q (some e.val) { s with heap := h' }) :
    wpAny (model prog w) A (pyNext (.ref it)) Q E s := by
  obtain ⟨o, ho, hc, hd⟩ := id hit
  obtain ⟨od, hod, hcd, hdd⟩ := id hm
  unfold pyNext
  refine wpAny_bind (wpAny_attempt (wpAny_callSpecial?_slot (name := Str.ofString "__next__") hit.typeIs F.slot_dict_valueiterator_next
    (wpAny_call_entry F.slot_dict_valueiterator_next hit.typeIs F.entry_dict_valueiterator_next ?_ (F.args_dict_valueiterator_next_1 _))))
  refine wpAny_bind (wpAny_pure ?_)
  refine wpAny_bind ?_
  refine wpAny_bind ?_
  refine wpAny_bind (wpAny_typeNameOfWhole_valiter hit.typeIs (wpAny_pure ?_))
  refine wpAny_bind (wpAny_fieldsOf ho hd ?_)
  have hown : Builtin.Dict_items.ownsTuple "dict_valueiterator" = false := by decide
  simp only [hown, Bool.false_eq_true, if_false]
  show wpAny _ _ (if (Value.ref d == Value.none) = true then _ else _) _ _ s
  rw [if_neg (show ¬ ((Value.ref d == Value.none) = true) from Bool.false_ne_true)]
  refine wpAny_bind (wpAny_pure ?_)
  refine wpAny_bind (wpAny_dictEntries hod hdd ?_)
  rw [if_neg (by simp)]
  refine wpAny_bind (wpAny_pure ?_)
  refine wpAny_bind (wpAny_dictEpoch hod hdd ?_)
  rw [if_neg (by simp)]
  refine wpAny_pure ?_
  simp only [show ¬ ((i : Int) < 0) from by omega, if_false, Int.toNat_natCast, hx]
  refine wpAny_bind ?_
  refine wpAny_bind (wpAny_typeNameOfWhole_valiter hit.typeIs (wpAny_pure ?_))
  refine wpAny_bind (wpAny_isOneOf_valiter hit.typeIs ?_)
  show wpAny _ _ (setField (.ref it) 1 (rawInt ((i : Int) + 1)) >>= _) _ _ s
  refine wpAny_bind (wpAny_setField ho hd (by simp) ?_)
  have hit' : (s.heap.update it (Obj.mapFields (·.setIfInBounds 1 (rawInt ((i : Int) + 1))))).IsValIter it d (i + 1) es.size ep :=
    ⟨_, Heap.get?_update_self _ ho (Obj.isFreed_of_fields (Obj.data_mapFields hd _)), (Obj.cls_mapFields ..).trans hc, by rw [Obj.data_mapFields hd]; simp [rawInt]⟩
  refine wpAny_bind (wpAny_holding ?_)
  refine wpAny_bind (wpAny_isOneOf_valiter (s := { s with heap := s.heap.update it (Obj.mapFields (·.setIfInBounds 1 (rawInt ((i : Int) + 1)))) }) hit'.typeIs ?_)
  refine wpAny_bind (wpAny_isOneOf_valiter (s := { s with heap := s.heap.update it (Obj.mapFields (·.setIfInBounds 1 (rawInt ((i : Int) + 1)))) }) hit'.typeIs ?_)
  show wpAny _ _ (pure e.val) _ _ _
  exact wpAny_pure (wpAny_pure ⟨_, rfl, wpAny_pure (hQ _ hit' (Heap.SameBut.update ..))⟩)

theorem raw_next_value_end {it d : Addr} {i ep : Nat} {es : Array DictEntry} {Q : Option Value → Shared → Prop} (hh : A.handled = none) (hit : s.heap.IsValIter it d i es.size ep)
    (hm : Raw s.heap d es ep) (hx : es.size ≤ i)
    (hQ : ∀ h', Heap.ExtBut it s.heap h' → Q none { s with heap := h' }) : wpAny (model prog w) A (pyNext (.ref it)) Q E s := by
  obtain ⟨o, ho, hc, hd⟩ := id hit
  obtain ⟨od, hod, hcd, hdd⟩ := id hm
  unfold pyNext
  refine wpAny_bind (wpAny_attempt (wpAny_callSpecial?_slot (name := Str.ofString "__next__") hit.typeIs F.slot_dict_valueiterator_next
    (wpAny_call_entry F.slot_dict_valueiterator_next hit.typeIs F.entry_dict_valueiterator_next ?_ (F.args_dict_valueiterator_next_1 _))))
  refine wpAny_bind (wpAny_pure ?_)
  refine wpAny_bind ?_
  refine wpAny_bind ?_
  refine wpAny_bind (wpAny_typeNameOfWhole_valiter hit.typeIs (wpAny_pure ?_))
  refine wpAny_bind (wpAny_fieldsOf ho hd ?_)
  have hown : Builtin.Dict_items.ownsTuple "dict_valueiterator" = false := by decide
  simp only [hown, Bool.false_eq_true, if_false]
  show wpAny _ _ (if (Value.ref d == Value.none) = true then _ else _) _ _ s
  rw [if_neg (show ¬ ((Value.ref d == Value.none) = true) from Bool.false_ne_true)]
  refine wpAny_bind (wpAny_pure ?_)
  refine wpAny_bind (wpAny_dictEntries hod hdd ?_)
  rw [if_neg (by simp)]
  refine wpAny_bind (wpAny_pure ?_)
  refine wpAny_bind (wpAny_dictEpoch hod hdd ?_)
  rw [if_neg (by simp)]
  refine wpAny_pure ?_
  simp only [show ¬ ((i : Int) < 0) from by omega, if_false, Int.toNat_natCast, Array.getElem?_eq_none hx]
  refine wpAny_bind ?_
  refine wpAny_bind (wpAny_typeNameOfWhole_valiter hit.typeIs (wpAny_pure ?_))
  rw [hown, if_neg Bool.false_ne_true]
  refine stop_iter_end (A := A.in1) hh ho hd (by simp) fun h' a hs' hT => ?_
  refine wpAny_bind (wpAny_isInstance (T := "StopIteration") (b := true) hT isSubtype_stop ?_)
  exact wpAny_pure (hQ _ hs')

/-! items -/
theorem raw_iter_items {v d : Addr} {es : Array DictEntry} {ep : Nat} {Q : Value → Shared → Prop} (hv : s.heap.IsItemsView v d) (hm : Raw s.heap d es ep)
    (hQ : Q (.ref s.heap.objs.size) { s with heap := s.heap.push { cls := .type "dict_itemiterator", data := .fields #[.none, .bool false, .ref d, .int 0 0, .int es.size 0, .int ep 0, .none, .none] } }) :
    wpAny (model prog w) A (pyIter (.ref v)) Q E s := by
  obtain ⟨ov, hov, hcv, hdv⟩ := id hv
  obtain ⟨o, ho, hc, hdat⟩ := id hm
  refine wpAny_pyIter_slot hv.typeIs F.slot_dict_items_iter (wpAny_call_entry F.slot_dict_items_iter hv.typeIs F.entry_dict_items_iter ?_ (F.args_dict_items_iter_1 _))
  unfold Builtin.«dict_items.__iter__»
  refine wpAny_bind (wpAny_pure ?_)
  refine wpAny_bind ?_
  unfold Builtin.Dict_items.dictOf
  refine wpAny_bind (wpAny_field hov hdv (x := .ref d) rfl (wpAny_pure ?_))
  refine wpAny_bind ?_
  unfold Builtin.Dict_items.newIterator
  refine wpAny_bind (wpAny_dictEntries ho hdat ?_)
  refine wpAny_bind (wpAny_dictEpoch ho hdat ?_)
  have hown : Builtin.Dict_items.ownsTuple "dict_itemiterator" = true := by decide
  simp only [hown, if_true]
  refine wpAny_newObj_type (wpAny_pure ⟨_, rfl, "dict_itemiterator", _, ⟨_, Heap.get?_push_size _ rfl, rfl⟩, F.slot_dict_itemiterator_next.lookup, ?_⟩)
    (by simp only [sizeOk, Builtin.Dict_items.ownedTupleFields, List.size_toArray, List.length_append, List.length_cons, List.length_nil, sizeLine_eq]; omega)
  simpa [rawInt, Builtin.Dict_items.ownedTupleFields] using hQ

theorem raw_next_item {it d : Addr} {i ep : Nat} {es : Array DictEntry} {en : DictEntry} {ok ov : Value} {Q : Option Value → Shared → Prop} (hit : IsItemIter s.heap it d i es.size ep ok ov)
    (hm : Raw s.heap d es ep) (hx : es[i]? = some en)
    (hQ : ∀ h', IsItemIterOut h' it d (i + 1) es.size ep en.key en.val s.heap.objs.size →
      h'.get? s.heap.objs.size = some { cls := .type "tuple", data := .seq #[en.key, en.val] } → h'.objs.size = s.heap.objs.size + 1 →
      (∀ b o, b ≠ it → s.heap.get? b = some o → h'.get? b = some o) → Q (some (.ref s.heap.objs.size)) { s with heap := h' }) :
    wpAny (model prog w) A (pyNext (.ref it)) Q E s := by
  obtain ⟨hp, g, dr, tk, os⟩ := s
  obtain ⟨od, hod, hcd, hdd⟩ := id hm
  have hT : Shared.TypeIs ⟨hp, g, dr, tk, os⟩ (.ref it) "dict_itemiterator" := ⟨_, hit, rfl⟩
  unfold pyNext
  refine wpAny_bind (wpAny_attempt (wpAny_callSpecial?_slot (name := Str.ofString "__next__") hT F.slot_dict_itemiterator_next
    (wpAny_call_entry F.slot_dict_itemiterator_next hT F.entry_dict_itemiterator_next ?_ (F.args_dict_itemiterator_next_1 _))))
  refine wpAny_bind (wpAny_pure ?_)
  refine wpAny_bind ?_
  refine wpAny_bind ?_
  refine wpAny_bind (wpAny_typeNameOfWhole_itemiter hT (wpAny_pure ?_))
  refine wpAny_bind (wpAny_fieldsOf hit rfl ?_)
  have hown : Builtin.Dict_items.ownsTuple "dict_itemiterator" = true := by decide
  simp only [hown, if_true]
  show wpAny _ _ (if (Value.ref d == Value.none) = true then _ else _) _ _ _
  rw [if_neg (show ¬ ((Value.ref d == Value.none) = true) from Bool.false_ne_true)]
  refine wpAny_bind (wpAny_pure ?_)
  refine wpAny_bind (wpAny_dictEntries hod hdd ?_)
  rw [if_neg (by simp)]
  refine wpAny_bind (wpAny_pure ?_)
  refine wpAny_bind (wpAny_dictEpoch hod hdd ?_)
  rw [if_neg (by simp)]
  refine wpAny_pure ?_
  simp only [show ¬ ((i : Int) < 0) from by omega, if_false, Int.toNat_natCast, hx]
  refine wpAny_bind ?_
  refine wpAny_bind (wpAny_typeNameOfWhole_itemiter hT (wpAny_pure ?_))
  refine wpAny_bind (wpAny_isOneOf_itemiter hT ?_)
  show wpAny _ _ (setField (.ref it) 3 (rawInt ((i : Int) + 1)) >>= _) _ _ ⟨hp, g, dr, tk, os⟩
  refine wpAny_bind (wpAny_setField_rec hit (by simp) fun h₁ he₁ hs₁ => ?_)
  replace hs₁ : Heap.SameBut it hp h₁ := hs₁
  replace he₁ : IsItemIter h₁ it d (i + 1) es.size ep ok ov := by
    have e : ((i + 1 : Nat) : Int) = (i : Int) + 1 := by omega
    unfold IsItemIter; rw [e]; simpa [rawInt] using he₁
  have hT₁ : Shared.TypeIs ⟨h₁, g, dr, tk, os⟩ (.ref it) "dict_itemiterator" := ⟨_, he₁, rfl⟩
  refine wpAny_bind (wpAny_holding ?_)
  refine wpAny_bind (wpAny_isOneOf_itemiter hT₁ ?_)
  refine wpAny_bind (wpAny_isOneOf_itemiter hT₁ ?_)
  show wpAny _ _ (Builtin.Dict_items.pairFromOwner (.ref it) 6 en.key en.val) _ _ ⟨h₁, g, dr, tk, os⟩
  unfold Builtin.Dict_items.pairFromOwner
  refine wpAny_bind (wpAny_newTuple ?_)
  have he₂ : IsItemIter (h₁.push { cls := .type "tuple", data := .seq #[en.key, en.val] }) it d (i + 1) es.size ep ok ov := Heap.get?_push_of_some _ he₁
  generalize hh₂ : h₁.push { cls := .type "tuple", data := .seq #[en.key, en.val] } = h₂ at he₂
  have hz₁ : h₁.objs.size = hp.objs.size := hs₁.1
  have hil : it < hp.objs.size := Heap.lt_size hit
  have ht₂ : h₂.get? hp.objs.size = some { cls := .type "tuple", data := .seq #[en.key, en.val] } := by rw [← hh₂, ← hz₁]; exact Heap.get?_push_size _ rfl
  have hz₂ : h₂.objs.size = hp.objs.size + 1 := by rw [← hh₂, Heap.size_push, hz₁]
  have hk₂ : ∀ b o, b ≠ it → hp.get? b = some o → h₂.get? b = some o := fun b o hb e => by rw [← hh₂]; exact Heap.get?_push_of_some _ (hs₁.extBut b o hb e)
  show wpAny _ _ (Builtin.Dict_items.ownedTupleIsFree (.ref it) >>= _) _ _ ⟨h₂, g, dr, tk, os⟩
  rw [hz₁]
  clear hh₂ he₁ hs₁ hT₁ hz₁ h₁
  refine wpAny_bind ?_
  unfold Builtin.Dict_items.ownedTupleIsFree
  refine wpAny_bind (wpAny_field he₂ rfl (x := .none) rfl (wpAny_pure ?_))
  simp only [if_true]
  refine wpAny_bind (wpAny_field he₂ rfl (x := ok) rfl ?_)
  refine wpAny_bind (wpAny_field he₂ rfl (x := ov) rfl ?_)
  refine wpAny_bind (wpAny_setField_rec he₂ (by simp) fun h₃ he₃ hs₃ => ?_)
  replace hs₃ : Heap.SameBut it h₂ h₃ := hs₃
  replace he₃ : IsItemIter h₃ it d (i + 1) es.size ep en.key ov := he₃
  refine wpAny_bind (wpAny_setField_rec he₃ (by simp) fun h₄ he₄ hs₄ => ?_)
  replace hs₄ : Heap.SameBut it h₃ h₄ := hs₄
  replace he₄ : IsItemIter h₄ it d (i + 1) es.size ep en.key en.val := he₄
  refine wpAny_bind (wpAny_setField_rec he₄ (by simp) fun h₅ he₅ hs₅ => ?_)
  replace hs₅ : Heap.SameBut it h₄ h₅ := hs₅
  replace he₅ : IsItemIterOut h₅ it d (i + 1) es.size ep en.key en.val hp.objs.size := he₅
  refine wpAny_bind (wpAny_setField_rec he₅ (by simp) fun h₆ he₆ hs₆ => ?_)
  replace hs₆ : Heap.SameBut it h₅ h₆ := hs₆
  replace he₆ : IsItemIterOut h₆ it d (i + 1) es.size ep en.key en.val hp.objs.size := he₆
  have sb := hs₃.trans (hs₄.trans (hs₅.trans hs₆))
  refine wpAny_bind (wpAny_letGo (wpAny_pure (wpAny_pure ⟨_, rfl, wpAny_pure (hQ h₆ he₆ ?_ ?_ ?_)⟩)))
  · exact sb.extBut _ _ (Nat.ne_of_gt hil) ht₂
  · show h₆.objs.size = hp.objs.size + 1
    rw [sb.1, hz₂]
  · exact fun b o hb e => sb.extBut b o hb (hk₂ b o hb e)

theorem raw_next_item_end {it d : Addr} {i ep : Nat} {es : Array DictEntry} {ok ov : Value} {Q : Option Value → Shared → Prop} (hh : A.handled = none) (hit : IsItemIter s.heap it d i es.size ep ok ov)
    (hm : Raw s.heap d es ep) (hx : es.size ≤ i)
    (hQ : ∀ h', Heap.ExtBut it s.heap h' → Q none { s with heap := h' }) : wpAny (model prog w) A (pyNext (.ref it)) Q E s := by
  obtain ⟨od, hod, hcd, hdd⟩ := id hm
  have hT : s.TypeIs (.ref it) "dict_itemiterator" := ⟨_, hit, rfl⟩
  unfold pyNext
  refine wpAny_bind (wpAny_attempt (wpAny_callSpecial?_slot (name := Str.ofString "__next__") hT F.slot_dict_itemiterator_next
    (wpAny_call_entry F.slot_dict_itemiterator_next hT F.entry_dict_itemiterator_next ?_ (F.args_dict_itemiterator_next_1 _))))
  refine wpAny_bind (wpAny_pure ?_)
  refine wpAny_bind ?_
  refine wpAny_bind ?_
  refine wpAny_bind (wpAny_typeNameOfWhole_itemiter hT (wpAny_pure ?_))
  refine wpAny_bind (wpAny_fieldsOf hit rfl ?_)
  have hown : Builtin.Dict_items.ownsTuple "dict_itemiterator" = true := by decide
  simp only [hown, if_true]
  show wpAny _ _ (if (Value.ref d == Value.none) = true then _ else _) _ _ s
  rw [if_neg (show ¬ ((Value.ref d == Value.none) = true) from Bool.false_ne_true)]
  refine wpAny_bind (wpAny_pure ?_)
  refine wpAny_bind (wpAny_dictEntries hod hdd ?_)
  rw [if_neg (by simp)]
  refine wpAny_bind (wpAny_pure ?_)
  refine wpAny_bind (wpAny_dictEpoch hod hdd ?_)
  rw [if_neg (by simp)]
  refine wpAny_pure ?_
  simp only [show ¬ ((i : Int) < 0) from by omega, if_false, Int.toNat_natCast, Array.getElem?_eq_none hx]
  refine wpAny_bind ?_
  refine wpAny_bind (wpAny_typeNameOfWhole_itemiter hT (wpAny_pure ?_))
  rw [hown, if_pos rfl]
  refine stop_iter_end (A := A.in1) hh hit rfl (by simp) fun h' a hs' hT => ?_
  refine wpAny_bind (wpAny_isInstance (T := "StopIteration") (b := true) hT isSubtype_stop ?_)
  exact wpAny_pure (hQ _ hs')
end

/-! the iterators as `Walks` -/
theorem walks_keys {prog : Program} {w : World} {A : Around} (hh : A.handled = none) (I d : Addr) (hne : d ≠ I) (es : Array DictEntry) (ep : Nat) :
    Walks prog w A I [I, d] [I] es.size (fun i v => ∃ e, es[i]? = some e ∧ v = e.key) (fun i h => h.IsKeyIter I d i es.size ep ∧ Raw h d es ep) where
  sub := fun b hb => by simp at hb; simp [hb]
  frame := fun _ _ _ st hk => ⟨st.1.at fun o e => hk I (by simp) o e, st.2.at fun o e => hk d (by simp) o e⟩
  item := fun i s Q E hi st hQ => by
    have hx : es[i]? = some es[i] := by simp [hi]
    refine raw_next_key st.1 st.2 hx fun h' hit' hs' => ?_
    exact hQ _ h' s.toks ⟨_, hx, rfl⟩ ⟨hit', st.2.at fun o e => hs'.extBut d o hne e⟩ fun b o hb e => hs'.extBut b o (fun h => hb (by simp [h])) e
  done := fun s Q E st hQ => raw_next_key_end hh st.1 st.2 (Nat.le_refl _) fun h' he' => hQ h' s.toks fun b o hb e => he' b o (fun h => hb (by simp [h])) e
  self := fun _ _ _ _ st hQ => wpAny_pyIter_keyiter st.1 hQ

end Mine
/-! M3 -/
namespace Mine
open PySem PySem.W PyProof.Rows PySem.Calls
set_option maxRecDepth 100000

/-! ### the hashes of keys in range differ -/
def Small (r : Int) : Prop := 0 ≤ r ∧ r < 5
theorem hashInt_small {r : Int} (h : Small r) : hashInt r = r := by
  obtain ⟨h0, h5⟩ := h
  have : r = 0 ∨ r = 1 ∨ r = 2 ∨ r = 3 ∨ r = 4 := by omega
  rcases this with rfl | rfl | rfl | rfl | rfl <;> decide
def laneOf (h : Int) : Nat := (h % ((2 ^ 64 : Nat) : Int)).toNat
def stepP (acc : Nat) (h : Int) : Nat :=
  let m : Nat := 2 ^ 64
  let prime1 : Nat := 11400714785074694791
  let prime2 : Nat := 14029467366897019727
  let acc := (acc + (h % (m : Int)).toNat * prime2) % m
  let acc := (acc * 2 ^ 31) % m + acc / 2 ^ 33
  (acc * prime1) % m
def finP (acc : Nat) : Int :=
  let m : Nat := 2 ^ 64
  if acc == m - 1 then 1546275796 else if acc < 2 ^ 63 then acc else (acc : Int) - m
theorem tupleHash_fold (hs : List Int) : Builtin.Tuple.tupleHashOf hs = finP ((hs.foldl stepP 2870177450012600261 + (hs.length ^^^ (2870177450012600261 ^^^ 3527539))) % 2 ^ 64) := rfl
theorem stepP_eq (a : Nat) (h : Int) : stepP a h = stp a (laneOf h) := by
  unfold stepP stp rot laneOf
  simp only [Nat.reducePow]
theorem finP_eq (f : Nat) : finP f = outOf f := by
  unfold finP outOf
  simp only [Nat.reducePow]
theorem fin3_eq (a l : Nat) : fin3 ((a + l * 14029467366897019727) % 18446744073709551616) = (stp a l + 2870177450013471925) % 18446744073709551616 := by
  unfold fin3 stp; exact Eq.refl _
theorem xor3 : (3 ^^^ (2870177450012600261 ^^^ 3527539) : Nat) = 2870177450013471925 := by decide +kernel
theorem tupleHash3 (a b c : Int) : Builtin.Tuple.tupleHashOf [a, b, c] = outOf (fin3 ((stp (stp 2870177450012600261 (laneOf a)) (laneOf b) + laneOf c * 14029467366897019727) % 18446744073709551616)) := by
  rw [tupleHash_fold, finP_eq, fin3_eq]
  have e1 : List.foldl stepP 2870177450012600261 [a, b, c] = stp (stp (stp 2870177450012600261 (laneOf a)) (laneOf b)) (laneOf c) := by
    rw [List.foldl_cons, List.foldl_cons, List.foldl_cons, List.foldl_nil, stepP_eq, stepP_eq, stepP_eq]
  have e2 : [a, b, c].length = 3 := rfl
  have e3 : (2 : Nat) ^ 64 = 18446744073709551616 := by decide +kernel
  rw [e1, e2, xor3, e3]
theorem out_reduced {f : Nat} (h : f < 18446744073709551616) : reduceHash (outOf f) = outOf f := by
  have h1 : outOf f ≠ -1 := by
    unfold outOf
    simp only [beq_iff_eq]
    split
    · decide
    · split <;> omega
  have h2 : -(2 ^ 63 : Int) ≤ outOf f ∧ outOf f < 2 ^ 63 := by
    unfold outOf
    simp only [beq_iff_eq]
    split
    · decide
    · split <;> omega
  unfold reduceHash
  rw [if_pos (by simp only [Bool.and_eq_true, decide_eq_true_eq]; exact h2), if_neg (by simpa using h1)]
theorem laneOf_small {r : Int} (h : Small r) : laneOf r = r.toNat := by
  unfold laneOf
  rw [Int.emod_eq_of_lt h.1 (by have := h.2; omega)]
theorem kk0_hash_eq (prog : Program) (w : World) {r : Int} (h : Small r) :
    (kk0 prog w).hash r = outOf (fin3 ((stp (stp 2870177450012600261 (laneOf (hashStr w fileS))) r.toNat + laneOf (hashStr w fS) * 14029467366897019727) % 18446744073709551616)) := by
  show reduceHash (Builtin.Tuple.tupleHashOf [hashStr w fileS, hashInt r, hashStr w fS]) = _
  rw [tupleHash3, hashInt_small h, out_reduced (fin3_lt _), laneOf_small h]
theorem kk0_hash_inj (prog : Program) (w : World) {r q : Int} (hr : Small r) (hq : Small q) (h : (kk0 prog w).hash r = (kk0 prog w).hash q) : r = q := by
  rw [kk0_hash_eq prog w hr, kk0_hash_eq prog w hq] at h
  have hr' := hr; have hq' := hq
  unfold Small at hr' hq'
  have := out_inj (r := r.toNat) (q := q.toNat) (by omega) (by omega) h
  omega

/-- the kind of our keys, closed: what it is is said by the next lemmas alone -/
theorem kk_ex (prog : Program) (w : World) : ∃ k : HeapKind prog w Int, (∀ h r a, k.is h r a ↔ IsKey h r a) ∧ (∀ A : Around, A.units < cLine → k.room A) ∧
    (∀ r q, Small r → Small q → k.hash r = k.hash q → r = q) :=
  ⟨kk0 prog w, fun _ _ _ => Iff.rfl, fun _ h => h, fun _ _ hr hq h => kk0_hash_inj prog w hr hq h⟩
noncomputable def kk (prog : Program) (w : World) : HeapKind prog w Int := Classical.choose (kk_ex prog w)
theorem kk_is {prog : Program} {w : World} {h : Heap} {r : Int} {a : Addr} : (kk prog w).is h r a ↔ IsKey h r a := (Classical.choose_spec (kk_ex prog w)).1 h r a
theorem kk_room {prog : Program} {w : World} {A : Around} (h : A.units < cLine) : (kk prog w).room A := (Classical.choose_spec (kk_ex prog w)).2.1 A h
theorem kk_hash_inj (prog : Program) (w : World) {r q : Int} (hr : Small r) (hq : Small q) (h : (kk prog w).hash r = (kk prog w).hash q) : r = q :=
  (Classical.choose_spec (kk_ex prog w)).2.2 r q hr hq h
end Mine
/-! M4 -/
namespace Mine
open PySem PySem.W PyProof.Rows PySem.Calls
set_option maxRecDepth 100000

abbrev Ent := Int × Addr × Value
abbrev D (prog : Program) (w : World) (h : Heap) (d : Addr) (xs : List Ent) : Prop := h.DictOfH (kk prog w) d xs
def InRange (xs : List Ent) : Prop := ∀ x ∈ xs, Small x.1

section
variable {prog : Program} {w : World} {A : Around} {E : Value → Shared → Prop} {s : Shared}

theorem D.ext {h h' : Heap} {d : Addr} {xs : List Ent} (x : D prog w h d xs) (e : Ext h h') : D prog w h' d xs := by
  obtain ⟨o, es, ep, ho, hc, hd, he, his, hn⟩ := x
  exact ⟨o, es, ep, e _ _ ho, hc, hd, he, fun y hy => kk_is.mpr ((kk_is.mp (his y hy)).ext e), hn⟩
theorem D.lt {h : Heap} {d : Addr} {xs : List Ent} (x : D prog w h d xs) : d < h.objs.size := let ⟨_, _, _, ho, _⟩ := x; Heap.lt_size ho
theorem D.nodup {h : Heap} {d : Addr} {xs : List Ent} (x : D prog w h d xs) : (xs.map (·.1)).Nodup := let ⟨_, _, _, _, _, _, _, _, hn⟩ := x; hn
theorem D.keys {h : Heap} {d : Addr} {xs : List Ent} (x : D prog w h d xs) : ∀ y ∈ xs, IsKey h y.1 y.2.1 := let ⟨_, _, _, _, _, _, _, his, _⟩ := x; fun y hy => kk_is.mp (his y hy)
theorem D.raw {h : Heap} {d : Addr} {xs : List Ent} (x : D prog w h d xs) : ∃ es ep, Raw h d es ep ∧ es.toList = xs.map (entryOfKey (kk prog w)) :=
  let ⟨o, es, ep, ho, hc, hd, he, _, _⟩ := x; ⟨es, ep, ⟨o, ho, hc, hd⟩, he⟩

/-! dict(d): a copy -/
theorem hash_once {es : Array DictEntry} {xs : List Ent} (he : es.toList = xs.map (entryOfKey (kk prog w))) (hr : InRange xs) (hn : (xs.map (·.1)).Nodup) (h : Int) :
    ¬ (es.filter (·.hash == h)).size > 1 := by
  have e : (es.filter (·.hash == h)).size = ((xs.map (entryOfKey (kk prog w))).filter (·.hash == h)).length := by
    rw [← he, ← Array.toList_filter, Array.length_toList]
  rw [e, List.filter_map, List.length_map]
  have key : ∀ l : List Ent, (∀ x ∈ l, Small x.1) → (l.map (·.1)).Nodup → (l.filter ((fun x : DictEntry => x.hash == h) ∘ entryOfKey (kk prog w))).length ≤ 1 := by
    intro l
    induction l with
    | nil => intro _ _; simp
    | cons x r ih =>
      intro hs hn
      rw [List.map_cons, List.nodup_cons] at hn
      have ih' := ih (fun y hy => hs y (List.mem_cons_of_mem _ hy)) hn.2
      rw [List.filter_cons]
      split
      · rename_i hx
        have hx' : (kk prog w).hash x.1 = h := by simpa [entryOfKey] using hx
        have none : r.filter ((fun x : DictEntry => x.hash == h) ∘ entryOfKey (kk prog w)) = [] := by
          rw [List.filter_eq_nil_iff]
          intro y hy hc
          have hy' : (kk prog w).hash y.1 = h := by simpa [entryOfKey] using hc
          have := kk_hash_inj prog w (hs x List.mem_cons_self) (hs y (List.mem_cons_of_mem _ hy)) (hx'.trans hy'.symm)
          exact hn.1 (List.mem_map.mpr ⟨y, hy, this.symm⟩)
        rw [none]; simp
      · exact ih'
  have := key xs hr hn
  omega

theorem quiet_loop {id : String} {es : Array DictEntry} {Q : PUnit → Shared → Prop} (hk : ∀ e ∈ es.toList, ∃ r a, e.key = .ref a ∧ IsKey s.heap r a) (hf : ∀ h : Int, ¬ (es.filter (·.hash == h)).size > 1) (h : Q ⟨⟩ s) :
    wpAny (model prog w) A (forIn es PUnit.unit fun e (_ : PUnit) => (do
      let q ← Builtin.Dict.quietEq e.key
      if (!q) = true then
        if (es.filter (·.hash == e.hash)).size > 1 then (do let _ ← (unsupported s!"{id}:keys-of-equal-hash" : Sem PUnit); pure (ForInStep.yield PUnit.unit)) else pure (ForInStep.yield PUnit.unit)
      else pure (ForInStep.yield PUnit.unit) : Sem (ForInStep PUnit))) Q E s := by
  rw [← Array.forIn_toList]
  refine wpAny_forIn_list _ (fun rest _ s' => s' = s ∧ ∀ e ∈ rest, ∃ r a, e.key = .ref a ∧ IsKey s.heap r a) _ ?_ ?_ _ _ ⟨rfl, hk⟩
  · rintro e rest b s' ⟨rfl, hr⟩
    obtain ⟨r, a, hea, hka⟩ := hr e List.mem_cons_self
    have hT : s'.TypeIs (.ref a) "tuple" := by obtain ⟨o, _, _, _, _, ho, hc, _⟩ := hka; exact ⟨o, ho, hc⟩
    rw [hea]
    refine wpAny_bind ?_
    unfold Builtin.Dict.quietEq
    refine wpAny_bind (wpAny_specialOf hT F.slot_tuple_eq.lookup (wpAny_pure ?_))
    rw [if_pos (by decide), if_neg (hf _)]
    exact wpAny_pure ⟨rfl, fun e he => hr e (List.mem_cons_of_mem _ he)⟩
  · rintro b s' ⟨rfl, _⟩
    exact h

theorem entries_quiet {id : String} {d : Addr} {xs : List Ent} {Q : Array DictEntry → Shared → Prop} (hm : D prog w s.heap d xs) (hr : InRange xs)
    (h : ∀ es, es.toList = xs.map (entryOfKey (kk prog w)) → Q es s) : wpAny (model prog w) A (Builtin.Dict.entriesForEmpty id d) Q E s := by
  obtain ⟨o, es, ep, ho, hc, hd, he, his, hn⟩ := hm
  unfold Builtin.Dict.entriesForEmpty
  refine wpAny_bind (wpAny_dictEntries ho hd ?_)
  refine wpAny_bind (quiet_loop ?_ (hash_once he hr hn) (wpAny_pure (h es he)))
  intro e hm
  rw [he] at hm
  obtain ⟨x, hx, rfl⟩ := List.mem_map.mp hm
  exact ⟨x.1, x.2.1, rfl, kk_is.mp (his x hx)⟩

theorem merge_copy {nm : String} {d o : Addr} {xs : List Ent} {Q : Unit → Shared → Prop} (hdo : d ≠ o) (hoS : (o == sysModules) = false)
    (hd : D prog w s.heap d []) (ho : D prog w s.heap o xs) (hr : InRange xs) (hsz : xs.length ≤ 1000)
    (hQ : ∀ h', D prog w h' d xs → Heap.SameBut d s.heap h' → Q () { s with heap := h' }) :
    wpAny (model prog w) A (Builtin.Dict.mergeDict nm d o) Q E s := by
  obtain ⟨oo, es, ep, hoo, hoc, hod, hoe, hois, hon⟩ := id ho
  obtain ⟨od, es0, ep0, hdo', hdc, hdd, hde, _, _⟩ := id hd
  have hes0 : es0 = #[] := by
    have : es0.toList = [] := by rw [hde]; rfl
    exact Array.toList_eq_nil_iff.mp this
  subst hes0
  unfold Builtin.Dict.mergeDict
  rw [if_neg (by simpa using hdo)]
  refine wpAny_bind (shows_all hoS ?_)
  refine wpAny_bind (wpAny_dictEntries hoo hod ?_)
  cases xs with
  | nil =>
    have hes : es = #[] := Array.toList_eq_nil_iff.mp (by rw [hoe]; rfl)
    subst hes
    dsimp only
    rw [if_neg (by simp)]
    refine wpAny_bind (wpAny_dictEpoch hoo hod ?_)
    refine wpAny_bind (wpAny_dictEntries hoo hod ?_)
    refine wpAny_bind ?_
    rw [Std.Legacy.Range.forIn_eq_forIn_range']
    simp only [Std.Legacy.Range.size, List.size_toArray, List.length_nil, Nat.sub_zero, Nat.zero_add, Nat.sub_self, Nat.zero_div, List.range'_zero, List.forIn_nil]
    exact wpAny_pure (wpAny_pure (hQ _ hd (.refl ..)))
  | cons x r =>
    have hne : es ≠ #[] := by
      rintro rfl
      simp at hoe
    dsimp only
    rw [if_pos]
    · refine wpAny_bind (wpAny_dictEntries hdo' hdd ?_)
      rw [if_pos (by simp)]
      refine wpAny_bind (entries_quiet ho hr fun es' hes' => ?_)
      rw [if_pos (by cases hq : es'.isEmpty with
        | false => rfl
        | true => have : es' = #[] := by simpa using hq
                  subst this; simp at hes')]
      have hlen : es'.size ≤ sizeLine + 1 := by
        have e1 := congrArg List.length hes'
        rw [Array.length_toList, List.length_map] at e1
        rw [e1, sizeLine_eq]; omega
      refine wpAny_bind (wpAny_updateDictKeysTo hdo' hdd ?_ hlen)
      refine wpAny_pure (hQ _ ⟨_, es', ep0 + 1, Heap.get?_update_self _ hdo' (Obj.isFreed_of_dict (Obj.data_mapDictKeys hdd _)), hdc.mapDictKeys _, Obj.data_mapDictKeys hdd _, hes', ?_, hon⟩ (Heap.SameBut.update ..))
      intro y hy
      refine kk_is.mpr ?_
      have hk := kk_is.mp (hois y hy)
      obtain ⟨o', t1, t2, t3, n, ho', hc', hd'⟩ := hk
      have hne : y.2.1 ≠ d := by
        intro e
        rw [e] at ho'
        obtain rfl := Option.some.inj (ho'.symm.trans hdo')
        rw [hdd] at hd'; exact nomatch hd'
      exact ⟨o', t1, t2, t3, n, (Heap.get?_update_other _ _ (Ne.symm hne)).trans ho', hc', hd'⟩
    · have : (es.all fun e => (keyPart e.key).isSome) = false := by
        rw [← Array.all_toList, hoe]
        simp [entryOfKey, keyPart]
      simp [this]
end
end Mine
/-! M5 -/
namespace Mine
open PySem PySem.W PyProof.Rows PySem.Calls
set_option maxRecDepth 100000

section
variable {prog : Program} {w : World} {A : Around} {E : Value → Shared → Prop} {s : Shared}

theorem D.new (h : Heap) : D prog w (h.push { cls := .type "dict", data := .dict #[] }) h.objs.size [] := Heap.DictOfH.new h

theorem sameBut_ext {h h' : Heap} {o : Obj} (hs : Heap.SameBut h.objs.size (h.push o) h') : Ext h h' :=
  fun b ob e => hs.extBut b ob (Nat.ne_of_lt (Heap.lt_size e)) (Heap.get?_push_of_some _ e)

/-- dict(d) -/
theorem call_dict_copy {o : Addr} {xs : List Ent} {Q : Value → Shared → Prop} (hoS : (o == sysModules) = false) (ho : D prog w s.heap o xs) (hr : InRange xs) (hsz : xs.length ≤ 1000)
    (h : ∀ h', Ext s.heap h' → s.heap.objs.size < h'.objs.size → D prog w h' s.heap.objs.size xs → Q (.ref s.heap.objs.size) { s with heap := h' }) :
    wpAny (model prog w) A (call (.type "dict") [.ref o]) Q E s := by
  refine callType_codes (Q₁ := fun obj s₁ => obj = .ref s.heap.objs.size ∧ s₁ = { s with heap := s.heap.push { cls := .type "dict", data := .dict #[] } }) F.kt_called_dict (F.kt_typeCall_dict_1 _) F.entry_dict_init (kt_code_dict_new _ ⟨rfl, rfl⟩) ?_
  rintro obj s₁ ⟨rfl, rfl⟩
  have hnew : D prog w (s.heap.push { cls := .type "dict", data := .dict #[] }) s.heap.objs.size [] := D.new s.heap
  have ho' := ho.ext (Ext.push s.heap { cls := .type "dict", data := .dict #[] })
  have hdo : s.heap.objs.size ≠ o := Nat.ne_of_gt ho.lt
  refine ⟨hnew.typeIs, F.args_dict_init_2 _ _, ?_⟩
  unfold Builtin.«dict.__init__»
  refine wpAny_bind ?_
  unfold Builtin.Dict.selfAndRest
  refine wpAny_bind (wpAny_notOrdered_dict hnew.typeIs ?_)
  show wpAny _ _ (pure (s.heap.objs.size, [Value.ref o])) _ _ _
  refine wpAny_pure ?_
  show wpAny _ _ (Builtin.Dict.updateFrom "dict.__init__" s.heap.objs.size (.ref o) [] .none) _ _ _
  unfold Builtin.Dict.updateFrom
  refine wpAny_bind (wpAny_typeOf ho'.typeIs ?_)
  rw [if_neg (by decide)]
  refine wpAny_bind ?_
  unfold Builtin.Dict.merge
  refine wpAny_bind ?_
  unfold Builtin.Dict.readDirectly
  refine wpAny_bind (wpAny_isInstance ho'.typeIs isSubtype_dict_dict ?_)
  simp only [Bool.not_true, Bool.false_eq_true, if_false]
  refine wpAny_bind (wpAny_specialOf ho'.typeIs F.slot_dict_iter.lookup (wpAny_pure ?_))
  simp only [beq_self_eq_true, if_true]
  refine wpAny_bind (wpAny_pure ?_)
  refine merge_copy hdo hoS hnew ho' hr hsz fun h' hd' hs' => ?_
  show wpAny _ _ (Builtin.Dict.addKeywords s.heap.objs.size [] >>= _) _ _ _
  exact wpAny_bind (wpAny_pure (wpAny_pure ⟨rfl, h h' (sameBut_ext hs') (by rw [hs'.1, Heap.size_push]; exact Nat.lt_succ_self _) hd'⟩))

/-- list(d) -/
theorem src_dict {d : Addr} {es : Array DictEntry} {ep : Nat} (lo : (d == sysModules) = false) :
    KdlSrc prog w "dict" d d es.size (fun i v => ∃ e, es[i]? = some e ∧ v = e.key) (fun h => Raw h d es ep) where
  type := fun _ hm => hm.typeIs
  there := fun _ hm => ⟨hm.lt, hm.lt⟩
  keep := fun _ _ hm hk => hm.at fun o e => hk d (.inl rfl) o e
  notList := by decide
  notTuple := by decide
  hint := fun _ _ _ _ hm hq => kdl_hint_dict hm.typeIs hq
  iter := fun _ _ hh hm => ⟨_, _, (fun _ _ hq => raw_pyIter lo hm hq), walks_keys hh _ d (Nat.ne_of_lt hm.lt) es ep, ⟨⟨_, Heap.get?_push_size _ rfl, rfl, rfl⟩, hm.push _⟩⟩

theorem call_list_dict {d : Addr} {xs : List Ent} {Q : Value → Shared → Prop} (lo : (d == sysModules) = false) (hh : A.handled = none) (hm : D prog w s.heap d xs) (hsz : xs.length ≤ 1000)
    (h : ∀ h' tk n, Ext s.heap h' → h'.get? s.heap.objs.size = some { cls := .type "list", dict := none, data := .seq (xs.map fun x => Value.ref x.2.1).toArray n, slots := #[] } → Q (.ref s.heap.objs.size) { s with heap := h', toks := tk }) :
    wpAny (model prog w) A (call (.type "list") [.ref d]) Q E s := by
  obtain ⟨es, ep, hr, he⟩ := hm.raw
  have hes : es.size = xs.length := by have := congrArg List.length he; simpa using this
  refine kdl_call (src_dict lo) hh hr (by rw [hes, sizeLine_eq]; omega) fun h' tk acc c hk hl hacc => ?_
  refine h h' tk c hk ?_
  rw [hl]
  have : acc = (xs.map fun x => Value.ref x.2.1).toArray := by
    apply Array.ext
    · rw [hacc.1, hes]; simp
    · intro i h1 h2
      obtain ⟨e, he1, he2⟩ := hacc.2 i acc[i] (by simp [h1])
      rw [← Array.getElem?_toList, he, List.getElem?_map] at he1
      have hix : i < xs.length := by rw [← hes, ← hacc.1]; exact h1
      rw [List.getElem?_eq_getElem hix] at he1
      simp only [Option.map_some, Option.some.injEq] at he1
      rw [he2, ← he1]
      simp [entryOfKey]
  rw [this]

/-! d == e, d != e where they are equal -/
theorem same_pairs {nm : String} {a b : Addr} {xa xb : List Ent} {Q : Bool → Shared → Prop} (ha : (a == sysModules) = false) (hb : (b == sysModules) = false) (hu : A.units < cLine)
    (da : D prog w s.heap a xa) (db : D prog w s.heap b xb) (hl : xa.length = xb.length)
    (hall : ∀ x ∈ xa, ∃ p, atKey xb x.1 = some p ∧ SeqAt.EqAt A s x.2.2 p.2 true) (h : Q true s) :
    wpAny (model prog w) A (Builtin.Dict.samePairs nm a b) Q E s := by
  obtain ⟨oa, es, ep, hoa, _, hda, hea, hia, _⟩ := da
  obtain ⟨ob, es', ep', hob, _, hdb, heb, hib, hnb⟩ := db
  have hla : es.size = xa.length := by have := congrArg List.length hea; simpa using this
  have hlb : es'.size = xb.length := by have := congrArg List.length heb; simpa using this
  unfold Builtin.Dict.samePairs
  refine wpAny_bind (shows_all ha ?_)
  refine wpAny_bind (shows_all hb ?_)
  refine wpAny_bind (wpAny_dictEntries hoa hda ?_)
  refine wpAny_bind (wpAny_dictEntries hob hdb ?_)
  rw [if_neg (by rw [hla, hlb, hl]; simp)]
  refine wpAny_bind (wpAny_dictEpoch hoa hda ?_)
  refine wpAny_bind ?_
  rw [Std.Legacy.Range.forIn_eq_forIn_range']
  simp only [Std.Legacy.Range.size, Nat.sub_zero, Nat.add_sub_cancel, Nat.div_one]
  refine wpAny_forIn_list _ (fun rest q s' => s' = s ∧ q = (none, ()) ∧ ∃ i, rest = List.range' i (es.size - i) ∧ i ≤ es.size) _ ?_ ?_ _ _ ⟨rfl, rfl, 0, by simp, Nat.zero_le _⟩
  · rintro x rest q s' ⟨rfl, rfl, i, hr, hi⟩
    have hlt : i < es.size := by
      rcases Nat.lt_or_ge i es.size with h | h
      · exact h
      · rw [Nat.sub_eq_zero_of_le h] at hr; simp at hr
    obtain ⟨rfl, hrest⟩ : x = i ∧ rest = List.range' (i + 1) (es.size - (i + 1)) := by
      have e : es.size - i = (es.size - (i + 1)) + 1 := by omega
      rw [e, List.range'_succ] at hr
      injection hr with h1 h2
      exact ⟨h1, h2⟩
    refine wpAny_bind (wpAny_dictEntries hoa hda ?_)
    have hx : x < xa.length := by rw [← hla]; exact hlt
    have hex : es[x]? = some (entryOfKey (kk prog w) xa[x]) := by rw [entry_at hea x, List.getElem?_eq_getElem hx]; rfl
    rw [hex]
    obtain ⟨p, hp, heq⟩ := hall xa[x] (List.getElem_mem hx)
    have hmem : ∃ j : Nat, xb[j]? = some (xa[x].1, p) := by
      by_cases hc : ∃ j : Nat, xb[j]? = some (xa[x].1, p)
      · exact hc
      · exfalso
        have : ∀ (j : Nat) (q : Addr × Value), xb[j]? ≠ some (xa[x].1, q) := by
          intro j q hq
          have := atKey_of_get hnb hq
          rw [hp] at this
          exact hc ⟨j, by rw [hq, Option.some.inj this]⟩
        have := atKey_none_of_get this
        rw [hp] at this; cases this
    obtain ⟨j₀, hj₀⟩ := hmem
    show wpAny _ _ (holding [Value.ref xa[x].2.1, xa[x].2.2] _ >>= _) _ _ _
    refine wpAny_bind (wpAny_holding (wpAny_bind ?_))
    refine wpAny_dictFind_heap (kk_room hu) (hia _ (List.getElem_mem hx)) hob hdb heb hib hnb (fun hno => absurd hj₀ (hno j₀ p)) fun j q hj => ?_
    have hjq : q = p := by
      have e1 := atKey_of_get hnb hj
      rw [hp] at e1; exact (Option.some.inj e1).symm
    subst hjq
    refine wpAny_bind (wpAny_dictEntries hob hdb ?_)
    rw [entry_at heb j, hj]
    refine wpAny_holding (heq prog w _ _ ?_)
    show wpAny _ _ (if (!true) = true then _ else _) _ _ _
    rw [if_neg (by decide)]
    refine wpAny_bind (wpAny_dictEpoch hoa hda ?_)
    rw [if_neg (by simp)]
    exact wpAny_pure ⟨rfl, rfl, x + 1, hrest, hlt⟩
  · rintro q s' ⟨rfl, rfl, i, hr, hi⟩
    exact wpAny_pure h

theorem dict_slots {nm : String} {a b : Addr} {Q : Value × Value → Shared → Prop} (hT : s.TypeIs (.ref a) "dict") (h : Q (.ref a, .ref b) s) :
    wpAny (model prog w) A (Builtin.Dict.dictSlotArgs nm ⟨[.ref a, .ref b], []⟩) Q E s := by
  unfold Builtin.Dict.dictSlotArgs
  refine wpAny_bind (wpAny_notOrdered_dict hT ?_)
  show wpAny _ _ (pure (Value.ref a, Value.ref b)) _ _ s
  exact wpAny_pure h

theorem dict_eq_true {a b : Addr} {xa xb : List Ent} {Q : Value → Shared → Prop} (ha : (a == sysModules) = false) (hb : (b == sysModules) = false) (hu : A.units + 1 < cLine)
    (da : D prog w s.heap a xa) (db : D prog w s.heap b xb) (hl : xa.length = xb.length)
    (hall : ∀ x ∈ xa, ∃ p, atKey xb x.1 = some p ∧ SeqAt.EqAt A.in1 s x.2.2 p.2 true) (h : Q (.bool true) s) :
    wpAny (model prog w) A (richCompare .Eq (.ref a) (.ref b)) Q E s := by
  refine wpAny_richCompare_same_room (op := .Eq) da.typeIs db.typeIs F.slot_dict_eq (wpAny_call_entry F.slot_dict_eq da.typeIs F.entry_dict_eq ?_ (F.args_dict_eq_2 _ _)) (Nat.lt_of_succ_lt hu)
  refine wpAny_bind (dict_slots da.typeIs ?_)
  refine wpAny_bind (wpAny_isInstance (T := "dict") db.typeIs F.sub_dict_dict ?_)
  simp only [Bool.not_true, Bool.false_eq_true, if_false]
  refine wpAny_bind (wpAny_pure (wpAny_bind (wpAny_pure ?_)))
  refine wpAny_bind (same_pairs ha hb hu da db hl hall ?_)
  refine wpAny_pure ⟨_, rfl, ?_, ?_⟩
  · exact fun x => nomatch x
  · simpa using h
theorem dict_ne_false {a b : Addr} {xa xb : List Ent} {Q : Value → Shared → Prop} (ha : (a == sysModules) = false) (hb : (b == sysModules) = false) (hu : A.units + 1 < cLine)
    (da : D prog w s.heap a xa) (db : D prog w s.heap b xb) (hl : xa.length = xb.length)
    (hall : ∀ x ∈ xa, ∃ p, atKey xb x.1 = some p ∧ SeqAt.EqAt A.in1 s x.2.2 p.2 true) (h : Q (.bool false) s) :
    wpAny (model prog w) A (compareOp .NotEq (.ref a) (.ref b)) Q E s := by
  refine wpAny_richCompare_same_room (op := .NotEq) da.typeIs db.typeIs F.slot_dict_ne (wpAny_call_entry F.slot_dict_ne da.typeIs F.entry_dict_ne ?_ (F.args_dict_ne_2 _ _)) (Nat.lt_of_succ_lt hu)
  refine wpAny_bind (dict_slots da.typeIs ?_)
  refine wpAny_bind (wpAny_isInstance (T := "dict") db.typeIs F.sub_dict_dict ?_)
  simp only [Bool.not_true, Bool.false_eq_true, if_false]
  refine wpAny_bind (wpAny_pure (wpAny_bind (wpAny_pure ?_)))
  refine wpAny_bind (same_pairs ha hb hu da db hl hall ?_)
  refine wpAny_pure ⟨_, rfl, ?_, ?_⟩
  · exact fun x => nomatch x
  · simpa using h
end
end Mine
/-! M6 -/
namespace Mine
open PySem PySem.W PyProof.Rows PySem.Calls
set_option maxRecDepth 100000

section
variable {prog : Program} {w : World} {A : Around} {E : Value → Shared → Prop} {s : Shared}

theorem list_no_keys : typeLookup (.type "list") (Str.ofString "keys") = pure none := am_miss_of_fast (by decide +kernel)

theorem getAttr?_miss_list {a : Addr} {o : Obj} {xs : Array Value} {k : Nat} {name : Str} {Q : Option Value → Shared → Prop}
    (hx : s.heap.get? a = some o) (hc : o.cls = .type "list") (hdat : o.data = .seq xs k) (hd : o.dict = none) (hmiss : typeLookup (.type "list") name = pure none) (hname : (["__module__", "__name__", "__qualname__", "__doc__", "__annotations__"] : List Str).contains name = false) (hA : A.handled = none)
    (h : ∀ h' tk, Ext s.heap h' → Q none { s with heap := h', toks := tk }) (hsz : name.length + 100 ≤ sizeLine := by size_fits) :
    wpAny (model prog w) A (getAttr? (.ref a) name) Q E s := by
  obtain ⟨c, dct, dat, sl⟩ := o
  simp only at hc hdat hd
  subst hc hdat hd
  obtain ⟨hp, g, d, tk, os⟩ := s
  have hT : ∀ tk', (⟨hp, g, d, tk', os⟩ : Shared).TypeIs (.ref a) "list" := fun _ => ⟨_, hx, rfl⟩
  have f1 := sub_AttributeError
  have f3 := F.slot_list_getattribute.lookup
  have f4 := F.slot_list_getattribute.bind (.ref a)
  have f5 := am_list_getattr_none
  unfold getAttr? getAttrBy? getAttrBy
  repeat (any_goals (first | assumption | exact hT _ | ((with_reducible show wpAny _ _ (call (Value.builtin "list.__getattribute__") _ _) _ _ _); refine call_meets F.slot_list_getattribute (hT _) am_entry_list_getattribute (F.args_list_getattribute_2 _ _) (meets_getattribute_miss_list a xs k sl name _ hmiss hname hsz) ⟨hx, hA, fun h' tk' e hx' => ?_⟩) | wp_step))
  obtain ⟨t', u', he⟩ := hx'.there
  have hT' : Shared.TypeIs ⟨h', g, d, tk', os⟩ (.ref e) "AttributeError" := ⟨_, he, rfl⟩
  show wpAny _ _ (getattributeRaised _ _ _ _ _ _ _) _ _ _
  unfold getattributeRaised
  refine wpAny_bind (wpAny_isInstance hT' f1 ?_)
  rw [if_pos rfl]
  repeat (any_goals (first | assumption | wp_step))
  exact h _ _ hx'.keeps

/-! dict(a list of pairs) -/
def PairsAt (h : Heap) (items : List Value) (ps : List Ent) : Prop :=
  items.length = ps.length ∧ ∀ (j : Nat) (x : Ent), ps[j]? = some x → ∃ p, items[j]? = some (.ref p) ∧ h.IsTuple p #[.ref x.2.1, x.2.2] ∧ IsKey h x.1 x.2.1

theorem isTuple_ext {h h' : Heap} {a : Addr} {items : Array Value} (x : h.IsTuple a items) (e : Ext h h') : h'.IsTuple a items := let ⟨o, ho, r⟩ := x; ⟨o, e _ _ ho, r⟩
theorem PairsAt.ext {h h' : Heap} {items : List Value} {ps : List Ent} (x : PairsAt h items ps) (e : Ext h h') : PairsAt h' items ps :=
  ⟨x.1, fun j y hy => let ⟨p, h1, h2, h3⟩ := x.2 j y hy; ⟨p, h1, isTuple_ext h2 e, h3.ext e⟩⟩

theorem atKey_none_of_not_mem {xs : List Ent} {k : Int} (h : k ∉ xs.map (·.1)) : atKey xs k = none :=
  atKey_none_of_get fun j p hj => h (List.mem_map.mpr ⟨(k, p), List.mem_of_getElem? hj, rfl⟩)

theorem plain_update_loop : plainId "dict.update.loop" = true := by decide +kernel
theorem entry_update_loop : entryFor table "dict.update.loop" = some Builtin.«dict.update.loop» := entryFor_of_tree (by kernel_rfl)

/-- what is held apart from the dict d and the iterator it -/
theorem update_loop {d it l : Addr} {items : List Value} {ps : List Ent} {res : Value} {R : Result → Shared → Prop} (hh : A.handled = none) (hu : A.units + 2 < cLine) (g : Heap) (hlen : ps.length ≤ 1000)
    (hgd : g.get? d = none) (hgi : g.get? it = none) (hdi : d ≠ it) (hnd : (ps.map (·.1)).Nodup) (hl : g.IsList l items.toArray) (hp : PairsAt g items ps) :
    ∀ (k i : Nat) (s : Shared), ps.length - i = k → i ≤ ps.length → s.heap.IsListIter it l i → Ext g s.heap → D prog w s.heap d (ps.take i) →
    (∀ h' tk, D prog w h' d ps → (∀ b o, b ≠ it → b ≠ d → s.heap.get? b = some o → h'.get? b = some o) → R (.ok (.ret res)) { s with heap := h', toks := tk }) →
    codeAny (model prog w) A (.builtin "dict.update.loop" ⟨[.ref d, .ref it, rawInt i, res], []⟩) R s := by
  have hll : l ≠ it := by rintro rfl; obtain ⟨o, ho, _⟩ := hl; rw [hgi] at ho; cases ho
  have hld : l ≠ d := by rintro rfl; obtain ⟨o, ho, _⟩ := hl; rw [hgd] at ho; cases ho
  intro k
  induction k with
  | zero =>
    intro i s hk hi hit hg hd hR
    have hii : i = ps.length := by omega
    refine codeAny_builtin entry_update_loop ?_
    rw [Around.under_plainId plain_update_loop _]
    have hl' : s.heap.IsList l items.toArray := let ⟨o, ho, r⟩ := hl; ⟨o, hg _ _ ho, r⟩
    unfold Builtin.«dict.update.loop»
    show wpAny _ _ (pyNext (.ref it) >>= _) _ _ s
    refine wpAny_bind (wpAny_pyNext_list_end (A := A.in1) hh hit hl' (by rw [hii, ← hp.1]; simp) fun h' he => ?_)
    show wpAny _ _ (Builtin.Dict.addKeywords d [] >>= _) _ _ _
    refine wpAny_bind (wpAny_pure (wpAny_pure ?_))
    refine hR h' s.toks ?_ fun b o hb _ e => he b o hb e
    rw [hii, List.take_length] at hd
    obtain ⟨o, es, ep, ho, hc, hdat, hee, his, hn⟩ := hd
    refine ⟨o, es, ep, he _ _ hdi ho, hc, hdat, hee, fun x hx => kk_is.mpr ?_, hn⟩
    obtain ⟨j, hj⟩ := List.mem_iff_getElem?.mp hx
    obtain ⟨p, _, _, hkey⟩ := hp.2 j x hj
    obtain ⟨o', t1, t2, t3, n, ho', hc', hd'⟩ := hkey
    have hne : x.2.1 ≠ it := by intro e; rw [e, hgi] at ho'; cases ho'
    exact ⟨o', t1, t2, t3, n, he _ _ hne (hg _ _ ho'), hc', hd'⟩
  | succ k ih =>
    intro i s hk hi hit hg hd hR
    have hlt : i < ps.length := by omega
    refine codeAny_builtin entry_update_loop ?_
    rw [Around.under_plainId plain_update_loop _]
    have hl' : s.heap.IsList l items.toArray := let ⟨o, ho, r⟩ := hl; ⟨o, hg _ _ ho, r⟩
    have hx : ps[i]? = some ps[i] := List.getElem?_eq_getElem hlt
    obtain ⟨p, hpi, hpt, hkey⟩ := hp.2 i ps[i] hx
    unfold Builtin.«dict.update.loop»
    show wpAny _ _ (pyNext (.ref it) >>= _) _ _ s
    refine wpAny_bind (wpAny_pyNext_list_item hit hl' (x := .ref p) (by simpa using hpi) fun h₁ hit₁ hs₁ => ?_)
    have hg₁ : Ext g h₁ := fun b o e => hs₁.extBut b o (by rintro rfl; rw [hgi] at e; cases e) (hg b o e)
    have hpt₁ := isTuple_ext hpt hg₁
    obtain ⟨op, hop, hcp, np, hdp⟩ := id hpt₁
    have hTp : Shared.TypeIs { s with heap := h₁ } (.ref p) "tuple" := ⟨op, hop, hcp⟩
    refine wpAny_bind (wpAny_holding ?_)
    refine wpAny_bind (wpAny_tryCatch ?_)
    unfold Builtin.Dict.pairItems
    refine wpAny_bind (wpAny_typeOf hTp ?_)
    rw [if_pos (by decide)]
    refine wpAny_bind (wpAny_seqItems hop hdp (wpAny_pure ?_))
    show wpAny _ _ (holding [Value.ref ps[i].2.1, ps[i].2.2] (dictSet d (.ref ps[i].2.1) ps[i].2.2)) _ _ _
    have hd₁ : D prog w h₁ d (ps.take i) := by
      obtain ⟨o, es, ep, ho, hc, hdat, hee, his, hn⟩ := hd
      refine ⟨o, es, ep, hs₁.extBut _ _ hdi ho, hc, hdat, hee, fun x hx => kk_is.mpr ?_, hn⟩
      obtain ⟨j, hj⟩ := List.mem_iff_getElem?.mp (List.mem_of_mem_take hx)
      obtain ⟨_, _, _, hkey'⟩ := hp.2 j x hj
      exact hkey'.ext hg₁
    refine wpAny_holding (wpAny_dictSet_heap (s := { s with heap := h₁ }) (kk_room (A := A.in1) (Nat.lt_of_succ_lt hu)) (kk_is.mpr (hkey.ext hg₁)) hd₁ (fun h₂ hd₂ hs₂ => ?_) (by rw [List.length_take, sizeLine_eq]; omega))
    have hnot : ps[i].1 ∉ (ps.take i).map (·.1) := by
      intro hm
      obtain ⟨x, hx1, hx2⟩ := List.mem_map.mp hm
      obtain ⟨j, hj⟩ := List.mem_iff_getElem?.mp hx1
      rw [List.getElem?_take] at hj
      split at hj
      · rename_i hji
        have := idxH_unique hnd (k := ps[i].1) (p := x.2) (q := ps[i].2) (by rw [hj, ← hx2]) hx
        omega
      · cases hj
    rw [storedH_new (atKey_none_of_not_mem hnot)] at hd₂
    have htake : ps.take i ++ [(ps[i].1, ps[i].2.1, ps[i].2.2)] = ps.take (i + 1) := by
      rw [List.take_succ_eq_append_getElem hlt]
    rw [htake] at hd₂
    have hit₂ : h₂.IsListIter it l (i + 1) := hit₁.extBut hs₂.extBut (Ne.symm hdi)
    have hg₂ : Ext g h₂ := fun b o e => hs₂.extBut b o (by rintro rfl; rw [hgd] at e; cases e) (hg₁ b o e)
    show wpAny _ _ (pure _) _ _ _
    refine wpAny_pure ⟨plainId_quiet plain_update_loop _, ?_⟩
    refine ih (i + 1) _ (by omega) hlt hit₂ hg₂ hd₂ fun h' tk hd' hk' => ?_
    refine hR h' tk hd' fun b o hb1 hb2 e => hk' b o hb1 hb2 (hs₂.extBut b o hb2 (hs₁.extBut b o hb1 e))
end
end Mine
/-! M7 -/
namespace Mine
open PySem PySem.W PyProof.Rows PySem.Calls
set_option maxRecDepth 100000

section
variable {prog : Program} {w : World} {A : Around} {E : Value → Shared → Prop} {s : Shared}

theorem call_dict_pairs {l : Addr} {items : List Value} {ps : List Ent} {n : Nat} {Q : Value → Shared → Prop} (hh : A.handled = none) (hu : A.units + 6 < cLine) (hlen : ps.length ≤ 1000)
    (hnd : (ps.map (·.1)).Nodup) (hl : IsL s.heap l items.toArray n) (hp : PairsAt s.heap items ps)
    (h : ∀ h' tk, Ext s.heap h' → s.heap.objs.size < h'.objs.size → D prog w h' s.heap.objs.size ps → Q (.ref s.heap.objs.size) { s with heap := h', toks := tk }) :
    wpAny (model prog w) A (call (.type "dict") [.ref l]) Q E s := by
  refine callType_codes (Q₁ := fun obj s₁ => obj = .ref s.heap.objs.size ∧ s₁ = { s with heap := s.heap.push { cls := .type "dict", data := .dict #[] } }) F.kt_called_dict (F.kt_typeCall_dict_1 _) F.entry_dict_init (kt_code_dict_new _ ⟨rfl, rfl⟩) ?_
  rintro obj s₁ ⟨rfl, rfl⟩
  have hnew : D prog w (s.heap.push { cls := .type "dict", data := .dict #[] }) s.heap.objs.size [] := D.new s.heap
  have e0 := Ext.push s.heap { cls := .type "dict", data := .dict #[] }
  have hdsz : s.heap.objs.size < (s.heap.push { cls := .type "dict", data := .dict #[] }).objs.size := hnew.lt
  have hg0 : s.heap.get? s.heap.objs.size = none := Heap.get?_none_of_le (Nat.le_refl _)
  generalize s.heap.push { cls := .type "dict", data := .dict #[] } = H at hnew e0 hdsz ⊢
  generalize hdd : s.heap.objs.size = d at *
  have hlH : IsL H l items.toArray n := e0 _ _ hl
  have hTl : ∀ (s' : Shared), Ext H s'.heap → s'.TypeIs (.ref l) "list" := fun s' e => ⟨_, e _ _ hlH, rfl⟩
  refine ⟨hnew.typeIs, F.args_dict_init_2 _ _, ?_⟩
  unfold Builtin.«dict.__init__»
  refine wpAny_bind ?_
  unfold Builtin.Dict.selfAndRest
  refine wpAny_bind (wpAny_notOrdered_dict hnew.typeIs ?_)
  show wpAny _ _ (pure (d, [Value.ref l])) _ _ _
  refine wpAny_pure ?_
  show wpAny _ _ (Builtin.Dict.updateFrom "dict.__init__" d (.ref l) [] .none) _ _ _
  unfold Builtin.Dict.updateFrom
  refine wpAny_bind (wpAny_typeOf (hTl _ (Ext.refl _)) ?_)
  rw [if_pos (by decide)]
  refine wpAny_bind (getAttr?_miss_list hlH rfl rfl rfl list_no_keys (by decide +kernel) hh (fun h₁ tk₁ e₁ => ?_))
  rw [if_pos (by decide)]
  refine wpAny_bind (wpAny_rule ?_)
  refine wpAny_bind ?_
  have hl₁ : IsL h₁ l items.toArray n := e₁ _ _ hlH
  refine wpAny_pyIter_list (s := { s with heap := h₁, toks := tk₁ }) hl₁.isList ?_
  refine wpAny_pure ?_
  have hi0 : h₁.get? h₁.objs.size = none := Heap.get?_none_of_le (Nat.le_refl _)
  have hdlt : d < h₁.objs.size := (hnew.ext e₁).lt
  have e₂ := Ext.push h₁ { cls := .type "list_iterator", data := .fields #[.ref l, .int 0 0] }
  refine ⟨plainId_quiet plain_update_loop _, update_loop (A := A.in1) (l := l) (items := items) (ps := ps) hh (by show A.units + 1 + 2 < cLine; omega) s.heap hlen hg0 ?_ (Nat.ne_of_lt hdlt) hnd hl.isList hp _ 0 _ rfl (Nat.zero_le _) ?_ ?_ ?_ ?_⟩
  · cases hq : s.heap.get? h₁.objs.size with
    | none => rfl
    | some o => exact absurd (Heap.lt_size (e₁ _ _ (e0 _ _ hq))) (Nat.lt_irrefl _)
  · exact ⟨_, Heap.get?_push_size _ rfl, rfl, rfl⟩
  · exact (e0.trans e₁).trans e₂
  · exact (hnew.ext e₁).ext e₂
  · intro h' tk hd' hk'
    refine ⟨rfl, h h' tk (fun b o e => ?_) ?_ hd'⟩
    · refine hk' b o ?_ ?_ (e₂ _ _ (e₁ _ _ (e0 _ _ e)))
      · rintro rfl; exact absurd (Heap.lt_size (e₁ _ _ (e0 _ _ e))) (Nat.lt_irrefl _)
      · rintro rfl; rw [hg0] at e; cases e
    · exact hd'.lt
end
end Mine
/-! M8 -/
namespace Mine
open PySem PySem.W PyProof.Rows PySem.Calls
set_option maxRecDepth 100000

/-! ### the program's defs, by their places -/
def nth : List Stmt → Nat → Stmt
  | s :: _, 0 => s
  | _ :: r, n + 1 => nth r n
  | [], _ => .Pass ⟨0, 0, 0, 0⟩
def bodyOf : Stmt → List Stmt
  | .FunctionDef _ _ b _ _ _ _ _ _ _ => b
  | _ => []
def argsOf : Stmt → Arguments
  | .FunctionDef _ a _ _ _ _ _ _ _ _ => a
  | _ => { posonlyargs := [], args := [], vararg := none, kwonlyargs := [], kw_defaults := [], kwarg := none, defaults := [] }
def scopeOf : Stmt → Scope
  | .FunctionDef _ _ _ _ _ _ sc _ _ _ => sc
  | _ => { kind := .function, names := [], isGenerator := false, isCoroutine := false }
def dStd : Stmt := nth PySem.Challenge.pw_wy0065_01.main.body 1
def dAfs : Stmt := nth PySem.Challenge.pw_wy0065_01.main.body 2
def dAdd : Stmt := nth PySem.Challenge.pw_wy0065_01.main.body 3
def dCnt : Stmt := nth PySem.Challenge.pw_wy0065_01.main.body 4
def dSums : Stmt := nth PySem.Challenge.pw_wy0065_01.main.body 6
def dFours : Stmt := nth PySem.Challenge.pw_wy0065_01.main.body 7
def dLaw : Stmt := nth PySem.Challenge.pw_wy0065_01.main.body 8

/-! ### the room -/
structure Room (A : Around) (n : Nat) : Prop where
  hd : A.handled = none
  dp : A.depth + n ≤ 900
  un : A.units + 20 * n ≤ 9000
theorem Room.lim {A : Around} {n : Nat} (R : Room A n) : A.depth < recursionLimit := by have := R.dp; show A.depth < 1000; omega
theorem Room.unit {A : Around} {n : Nat} (R : Room A n) : A.units + 500 < cLine := by have := R.un; rw [cLine_is]; omega
theorem Room.deeper {A : Around} {n : Nat} (R : Room A (n + 1)) (env : Env) : Room (A.deeper env) n :=
  ⟨R.hd, by have := R.dp; show A.depth + 1 + n ≤ 900; omega, by have := R.un; show A.units + 3 + 20 * n ≤ 9000; omega⟩
theorem Room.in1 {A : Around} {n : Nat} (R : Room A (n + 1)) : Room A.in1 n :=
  ⟨R.hd, by have := R.dp; show A.depth + n ≤ 900; omega, by have := R.un; show A.units + 1 + 20 * n ≤ 9000; omega⟩
theorem Room.less {A : Around} {n m : Nat} (R : Room A n) (h : m ≤ n) : Room A m := ⟨R.hd, by have := R.dp; omega, by have := R.un; omega⟩

/-! ### functions of the top, the world -/
def FnAt (h : Heap) (f : Addr) (st : Stmt) (qn : Str) (cd : Value) : Prop :=
  ∃ o nm dc pm an ct, h.get? f = some o ∧ o.data = .func (fnOf nm qn (argsOf st) (bodyOf st) (scopeOf st) .none .none dc pm an cd ct) ∧ h.CodeRec cd qn
theorem FnAt.ext {h h' : Heap} {f : Addr} {st : Stmt} {qn : Str} {cd : Value} (x : FnAt h f st qn cd) (e : Ext h h') : FnAt h' f st qn cd :=
  let ⟨o, nm, dc, pm, an, ct, ho, hd, hc⟩ := x; ⟨o, nm, dc, pm, an, ct, e _ _ ho, hd, hc.keeps e⟩

def mkEnv (st : Stmt) (L f : Addr) (qn : Str) (cd : Value) : Env :=
  { scope := scopeOf st, locals := L, globals := mainGlobals, cells := [], qual := qn ++ ".<locals>.", func := some f, code := cd, frame := some L, builtins := builtinsNs }

/-- what never changes of the world: where the defs lie, the code table of add_callers -/
structure Zone where
  fStd : Addr
  fAfs : Addr
  fAdd : Addr
  fCnt : Addr
  fSums : Addr
  fFours : Addr
  c : Addr
  P : Addr
  ps : Array Value
  gp : Pos
  mg : Str → Option Value
  mb : Str → Option Value

abbrev usedB : List Str := [Str.ofString "range", Str.ofString "list", Str.ofString "dict", Str.ofString "sum", Str.ofString "int", Str.ofString "len", Str.ofString "str", Str.ofString "isinstance", Str.ofString "tuple", Str.ofString "zip"]

structure WF (Z : Zone) (h : Heap) : Prop where
  g : h.Ns mainGlobals Z.mg
  b : h.Ns builtinsNs Z.mb
  lim : h.NoLimit
  gStd : Z.mg (Str.ofString "func_std_string") = some (.ref Z.fStd)
  gAfs : Z.mg (Str.ofString "add_func_stats") = some (.ref Z.fAfs)
  gAdd : Z.mg (Str.ofString "add_callers") = some (.ref Z.fAdd)
  gCnt : Z.mg (Str.ofString "count_calls") = some (.ref Z.fCnt)
  gSums : Z.mg (Str.ofString "_law_sums") = some (.ref Z.fSums)
  gFours : Z.mg (Str.ofString "_law_fours") = some (.ref Z.fFours)
  gNone : ∀ x ∈ usedB, Z.mg x = none
  bAll : ∀ x ∈ usedB, Z.mb x = bootBuiltins x
  bi : ∃ bm ob, BMod h mainGlobals Z.mg bm ob
  nStd : ∃ cd, FnAt h Z.fStd dStd (Str.ofString "func_std_string") cd
  nAfs : ∃ cd, FnAt h Z.fAfs dAfs (Str.ofString "add_func_stats") cd
  nAdd : FnAt h Z.fAdd dAdd (Str.ofString "add_callers") (.ref Z.c)
  nCnt : ∃ cd, FnAt h Z.fCnt dCnt (Str.ofString "count_calls") cd
  nSums : ∃ cd, FnAt h Z.fSums dSums (Str.ofString "_law_sums") cd
  nFours : ∃ cd, FnAt h Z.fFours dFours (Str.ofString "_law_fours") cd

theorem WF.ext {Z : Zone} {h h' : Heap} (x : WF Z h) (e : Ext h h') : WF Z h' where
  g := x.g.keeps e
  b := x.b.keeps e
  lim := x.lim.keeps e
  gStd := x.gStd
  gAfs := x.gAfs
  gAdd := x.gAdd
  gCnt := x.gCnt
  gSums := x.gSums
  gFours := x.gFours
  gNone := x.gNone
  bAll := x.bAll
  bi := let ⟨bm, ob, h⟩ := x.bi; ⟨bm, ob, h.keeps e⟩
  nStd := let ⟨cd, h⟩ := x.nStd; ⟨cd, h.ext e⟩
  nAfs := let ⟨cd, h⟩ := x.nAfs; ⟨cd, h.ext e⟩
  nAdd := x.nAdd.ext e
  nCnt := let ⟨cd, h⟩ := x.nCnt; ⟨cd, h.ext e⟩
  nSums := let ⟨cd, h⟩ := x.nSums; ⟨cd, h.ext e⟩
  nFours := let ⟨cd, h⟩ := x.nFours; ⟨cd, h.ext e⟩

/-- the code table of add_callers: its generator expression's code is not in it, or is -/
def Zone.Tab (Z : Zone) (h : Heap) : Prop :=
  ∃ more, h.IsCode Z.c Z.P (Z.ps ++ more) ∧ h.TableAt Z.c Z.P (Z.ps ++ more) ∧
    (codeAmong Z.gp (Z.ps ++ more).toList = none ∨ ∃ c', codeAmong Z.gp (Z.ps ++ more).toList = some (.ref c'))
theorem Zone.Tab.at {Z : Zone} {h h' : Heap} (x : Z.Tab h) (ec : ∀ o, h.get? Z.c = some o → h'.get? Z.c = some o) (eP : ∀ o, h.get? Z.P = some o → h'.get? Z.P = some o) : Z.Tab h' := by
  obtain ⟨more, ⟨o, vs, file, tf, flags, tg, inF, text, tt, op, a, r1, r2, r3, r4, r5, r6, b, r⟩, ⟨⟨o', vs', a', r'⟩, b'⟩, q⟩ := x
  exact ⟨more, ⟨o, vs, file, tf, flags, tg, inF, text, tt, op, ec _ a, r1, r2, r3, r4, r5, r6, eP _ b, r⟩, ⟨⟨o', vs', ec _ a', r'⟩, eP _ b'⟩, q⟩
theorem Zone.Tab.lt {Z : Zone} {h : Heap} (x : Z.Tab h) : Z.c < h.objs.size ∧ Z.P < h.objs.size := let ⟨_, i, _⟩ := x; i.lt

/-- g: what stands still (a part of the heap); s₀: where the call began; s: here -/
structure St (Z : Zone) (g : Heap) (s₀ s : Shared) : Prop where
  ext : ∀ b o, b ≠ Z.P → s₀.heap.get? b = some o → s.heap.get? b = some o
  size : s₀.heap.objs.size ≤ s.heap.objs.size
  sub : Ext g s.heap
  gP : g.get? Z.P = none
  os : s.os = s₀.os
  bare : AllBare s.gens
  tab₀ : Z.c < s₀.heap.objs.size ∧ Z.P < s₀.heap.objs.size
  tab : Z.Tab s.heap

/-- the state at a call's begin -/
theorem St.start {Z : Zone} {g : Heap} {s₀ s : Shared} (S : St Z g s₀ s) : St Z g s s where
  ext := fun _ _ _ e => e
  size := Nat.le_refl _
  sub := S.sub
  gP := S.gP
  os := rfl
  bare := S.bare
  tab₀ := S.tab.lt
  tab := S.tab

/-- b and all that is new may have been changed -/
theorem St.step {Z : Zone} {g : Heap} {s₀ s : Shared} (S : St Z g s₀ s) {h' : Heap} {tk : Nat} (X : Addr → Prop) (hX : ∀ b, X b → g.get? b = none ∧ s₀.heap.objs.size ≤ b)
    (hk : ∀ b o, ¬ X b → s.heap.get? b = some o → h'.get? b = some o) (hs : s₀.heap.objs.size ≤ h'.objs.size) : St Z g s₀ { s with heap := h', toks := tk } where
  ext := fun b o hb e => hk b o (fun x => Nat.not_lt.mpr (hX b x).2 (Heap.lt_size e)) (S.ext b o hb e)
  size := hs
  sub := fun b o e => hk b o (fun x => by rw [(hX b x).1] at e; cases e) (S.sub b o e)
  gP := S.gP
  os := S.os
  bare := S.bare
  tab₀ := S.tab₀
  tab := S.tab.at (fun o e => hk _ o (fun x => Nat.not_lt.mpr (hX _ x).2 S.tab₀.1) e) (fun o e => hk _ o (fun x => Nat.not_lt.mpr (hX _ x).2 S.tab₀.2) e)

theorem size_of_ext {h h' : Heap} (e : Ext h h') (b : Addr) (hb : h.get? b ≠ none) : b < h'.objs.size := by
  cases q : h.get? b with
  | none => exact absurd q hb
  | some o => exact Heap.lt_size (e b o q)

theorem St.grown {Z : Zone} {g : Heap} {s₀ s : Shared} (S : St Z g s₀ s) {h' : Heap} {tk : Nat} (hk : Ext s.heap h') (hs : s.heap.objs.size ≤ h'.objs.size) : St Z g s₀ { s with heap := h', toks := tk } :=
  S.step (fun _ => False) (fun _ h => h.elim) (fun b o _ e => hk b o e) (Nat.le_trans S.size hs)
theorem St.tok {Z : Zone} {g : Heap} {s₀ s : Shared} (S : St Z g s₀ s) {tk : Nat} : St Z g s₀ { s with toks := tk } := S.grown (h' := s.heap) (Ext.refl _) (Nat.le_refl _)
theorem St.push {Z : Zone} {g : Heap} {s₀ s : Shared} (S : St Z g s₀ s) {tk : Nat} (o : Obj) : St Z g s₀ { s with heap := s.heap.push o, toks := tk } :=
  S.grown (Ext.push _ _) (by rw [Heap.size_push]; exact Nat.le_succ _)
theorem St.but {Z : Zone} {g : Heap} {s₀ s : Shared} (S : St Z g s₀ s) {h' : Heap} {tk : Nat} (a : Addr) (ha : g.get? a = none) (hn : s₀.heap.objs.size ≤ a)
    (hk : ∀ b o, b ≠ a → s.heap.get? b = some o → h'.get? b = some o) (hs : s₀.heap.objs.size ≤ h'.objs.size) : St Z g s₀ { s with heap := h', toks := tk } :=
  S.step (fun b => b = a) (fun b h => h ▸ ⟨ha, hn⟩) (fun b o hb e => hk b o hb e) hs

theorem St.same {Z : Zone} {g : Heap} {s₀ s : Shared} (S : St Z g s₀ s) {h' : Heap} {tk : Nat} {a : Addr} (ha : g.get? a = none) (hn : s₀.heap.objs.size ≤ a)
    (hs : Heap.SameBut a s.heap h') : St Z g s₀ { s with heap := h', toks := tk } := S.but a ha hn hs.extBut (by rw [hs.1]; exact S.size)

/-- a call came back -/
theorem St.trans {Z : Zone} {g g' : Heap} {s₀ s s' : Shared} (S : St Z g s₀ s) (S' : St Z g' s s') : St Z g' s₀ s' where
  ext := fun b o hb e => S'.ext b o hb (S.ext b o hb e)
  size := Nat.le_trans S.size S'.size
  sub := S'.sub
  gP := S'.gP
  os := S'.os.trans S.os
  bare := S'.bare
  tab₀ := S.tab₀
  tab := S'.tab

/-- what stands still grows: all but what is told apart -/
def still (Z : Zone) (h : Heap) (own : List Addr) : Heap := hideAll h (Z.P :: own)
theorem still_sub (Z : Zone) (h : Heap) (own : List Addr) : Ext (still Z h own) h := fun _ _ e => of_hideAll _ e
theorem still_get {Z : Zone} {h : Heap} {own : List Addr} {b : Addr} {o : Obj} (e : h.get? b = some o) (hP : b ≠ Z.P) (hb : b ∉ own) : (still Z h own).get? b = some o :=
  hideAll_get _ e (by simp [hP, hb])
theorem still_none {Z : Zone} {h : Heap} {own : List Addr} {b : Addr} (hb : b ∈ own) : (still Z h own).get? b = none := hideAll_none _ (by simp [hb])
theorem still_P {Z : Zone} {h : Heap} {own : List Addr} : (still Z h own).get? Z.P = none := hideAll_none _ (by simp)
theorem St.still {Z : Zone} {g : Heap} {s₀ s : Shared} (S : St Z g s₀ s) (own : List Addr) : St Z (still Z s.heap own) s₀ s :=
  { S with sub := still_sub _ _ _, gP := still_P }
theorem St.to_still {Z : Zone} {g : Heap} {s₀ s : Shared} (S : St Z g s₀ s) {own : List Addr} (ho : ∀ a ∈ own, g.get? a = none) : Ext g (Mine.still Z s.heap own) :=
  fun b o e => still_get (S.sub b o e) (fun h => by rw [h, S.gP] at e; cases e) (fun h => by rw [ho b h] at e; cases e)

/-- how a call of ours comes back: with more that stands still, nothing of it where the caller's own things lie -/
structure Back (Z : Zone) (g : Heap) (s : Shared) (Post : Heap → Value → Prop) (v : Value) (s' : Shared) (g' : Heap) : Prop where
  st : St Z g' s s'
  ext : Ext g g'
  own : ∀ b, b < s.heap.objs.size → g'.get? b = g.get? b
  post : Post g' v
def Gives (Z : Zone) (g : Heap) (s : Shared) (Post : Heap → Value → Prop) (r : Result) (s' : Shared) : Prop :=
  ∃ v g', r = .ok (.ret v) ∧ Back Z g s Post v s' g'

section
variable {prog : Program} {w : World} {A : Around} {R : Result → Shared → Prop} {s : Shared} {Z : Zone} {g : Heap}

/-- a call of a def without cells: its frame -/
theorem call_fn {n : Nat} {f : Addr} {st : Stmt} {qn : Str} {cd : Value} {vals : List Value} {binds : List (Str × Value)} (Rm : Room A (n + 1)) (S : St Z g s s) (W : WF Z g) (hF : FnAt g f st qn cd)
    (hbind : ∀ nm dc pm an ct, bindArgs (fnOf nm qn (argsOf st) (bodyOf st) (scopeOf st) .none .none dc pm an cd ct) ⟨vals, []⟩ = pure binds)
    (hcell : ∀ x ∈ (scopeOf st).names, x.2 ≠ .cell) (hloc : ∀ x ∈ binds, (scopeOf st).names.lookup x.1 = some .local)
    (h : ∀ L h₁, s.heap.objs.size ≤ L → h₁.Ns L (fun x => binds.reverse.lookup x) → St Z g s { s with heap := h₁, toks := s.toks + binds.length } →
      wpAny (model prog w) (A.deeper (mkEnv st L f qn cd)) (execs (bodyOf st) (mkEnv st L f qn cd)) (fun fl s' => R (.ok (.ret (match fl with | .ret v => v | _ => .none))) s') (fun _ _ => False)
        { s with heap := h₁, toks := s.toks + binds.length })
    (hco : (scopeOf st).isCoroutine = false) (hgen : (scopeOf st).isGenerator = false) (hk : (scopeOf st).kind = .function) :
    codeAny (model prog w) A (.call (.ref f) ⟨vals, []⟩) R s := by
  obtain ⟨o, nm, dc, pm, an, ct, ho, hd, hc⟩ := hF
  refine codeAny_call_def (fd := fnOf nm qn (argsOf st) (bodyOf st) (scopeOf st) .none .none dc pm an cd ct) (body := bodyOf st) (binds := binds) Rm.lim (S.sub _ _ ho) hd (W.lim.keeps S.sub) (hc.keeps S.sub) rfl
    (BindsTo.of_eq (hbind nm dc pm an ct)) hcell hloc (fun h₁ hns hk₁ => ?_) hco hgen hk
  have sz : s.heap.objs.size ≤ h₁.objs.size := Nat.le_of_lt hns.lt
  exact wpAny_mono (h s.heap.objs.size h₁ (Nat.le_refl _) hns (S.grown hk₁ sz)) (fun _ _ x => x) fun _ _ x => x.elim
end
end Mine
/-! M9 -/
namespace Mine
open PySem PySem.W PyProof.Rows PySem.Calls
set_option maxRecDepth 100000

/-! ### counts by key, as plain lists -/
def getI (c : List (Int × Int)) (k : Int) : Int := ((c.find? (fun p => decide (p.1 = k))).map (·.2)).getD 0
def putI (c : List (Int × Int)) (k v : Int) : List (Int × Int) := if k ∈ c.map (·.1) then c.map (fun p => if p.1 = k then (p.1, v) else p) else c ++ [(k, v)]
def addI (c : List (Int × Int)) (p : Int × Int) : List (Int × Int) := putI c p.1 (getI c p.1 + p.2)

def intOf : Value → Int
  | .int n _ => n
  | _ => 0
def IsInts (xs : List Ent) : Prop := ∀ x ∈ xs, ∃ t, x.2.2 = .int (intOf x.2.2) t
def absI (xs : List Ent) : List (Int × Int) := xs.map fun x => (x.1, intOf x.2.2)
theorem absI_keys (xs : List Ent) : (absI xs).map (·.1) = xs.map (·.1) := by simp [absI]

theorem atKey_get {xs : List Ent} (h : IsInts xs) (k : Int) (t : Tok) : ∃ t', ((atKey xs k).map (·.2)).getD (.int 0 t) = .int (getI (absI xs) k) t' := by
  induction xs with
  | nil => exact ⟨t, rfl⟩
  | cons x r ih =>
    have ih' := ih fun y hy => h y (List.mem_cons_of_mem _ hy)
    unfold atKey getI absI at *
    rw [List.map_cons, List.find?_cons, List.find?_cons]
    by_cases e : x.1 = k
    · obtain ⟨t', ht⟩ := h x List.mem_cons_self
      refine ⟨t', ?_⟩
      simp only [e, decide_true, Option.map_some, Option.getD_some]
      exact ht
    · simp only [e, decide_false]
      exact ih'

theorem atKey_isSome {xs : List Ent} {k : Int} : (atKey xs k).isSome = true ↔ k ∈ xs.map (·.1) := by
  constructor
  · intro h
    rcases Classical.em (k ∈ xs.map (·.1)) with hm | hm
    · exact hm
    · have := atKey_none_of_get (xs := xs) (k := k) fun j p hj => hm (List.mem_map.mpr ⟨(k, p), List.mem_of_getElem? hj, rfl⟩)
      rw [this] at h; cases h
  · intro h
    obtain ⟨x, hx, rfl⟩ := List.mem_map.mp h
    unfold atKey
    rw [Option.isSome_map, List.find?_isSome]
    exact ⟨x, hx, by simp⟩

theorem stored_absI {xs : List Ent} {k : Int} {a : Addr} {n : Int} {t : Tok} : absI (storedH xs k a (.int n t)) = putI (absI xs) k n := by
  unfold storedH putI
  rw [absI_keys]
  by_cases h : (atKey xs k).isSome = true
  · rw [if_pos h, if_pos (atKey_isSome.mp h)]
    unfold absI
    rw [List.map_map, List.map_map]
    refine List.map_congr_left fun x _ => ?_
    simp only [Function.comp, putAt]
    by_cases e : x.1 = k
    · simp [e, intOf]
    · simp [e]
  · rw [if_neg h, if_neg (fun q => h (atKey_isSome.mpr q))]
    simp [absI, intOf]
theorem stored_isInts {xs : List Ent} {k : Int} {a : Addr} {n : Int} {t : Tok} (h : IsInts xs) : IsInts (storedH xs k a (.int n t)) := by
  unfold storedH
  split
  · intro x hx
    obtain ⟨y, hy, rfl⟩ := List.mem_map.mp hx
    unfold putAt
    split
    · exact ⟨t, rfl⟩
    · exact h y hy
  · intro x hx
    rcases List.mem_append.mp hx with hx | hx
    · exact h x hx
    · rw [List.mem_singleton] at hx; subst hx; exact ⟨t, rfl⟩
theorem stored_keys {xs : List Ent} {k : Int} {a : Addr} {v : Value} : ∀ q ∈ (storedH xs k a v).map (·.1), q ∈ xs.map (·.1) ∨ q = k := by
  intro q hq
  unfold storedH at hq
  split at hq
  · rw [keys_map_putAt] at hq; exact .inl hq
  · rw [List.map_append, List.mem_append] at hq
    rcases hq with h | h
    · exact .inl h
    · simp at h; exact .inr h
theorem stored_length {xs : List Ent} {k : Int} {a : Addr} {v : Value} : (storedH xs k a v).length ≤ xs.length + 1 := by
  unfold storedH
  split <;> simp

/-! keys in range are at most five -/
theorem small_length {l : List Int} (hn : l.Nodup) (hs : ∀ r ∈ l, Small r) : l.length ≤ 5 := by
  have : l.length ≤ ([0, 1, 2, 3, 4] : List Int).length := by
    refine List.Nodup.length_le_of_subset hn fun r hr => ?_
    have := hs r hr
    unfold Small at this
    have : r = 0 ∨ r = 1 ∨ r = 2 ∨ r = 3 ∨ r = 4 := by omega
    rcases this with rfl | rfl | rfl | rfl | rfl <;> simp
  exact this

section
variable {prog : Program} {w : World} {M : Model} {A : Around} {E : Value → Shared → Prop} {s : Shared} {env : Env}

theorem ldL {m : Str → Option Value} {x : Str} {pos : Pos} {v : Value} {Q : Value → Shared → Prop} (hn : s.heap.Ns env.locals m) (hv : m x = some v) (h : Q v s)
    (hk : env.scope.kind = .function := by rfl) (hl : env.kindOf x = some .local := by rfl) (hd : (x == ("__debug__" : Str)) = false := by decide) :
    wpAny M A (eval (.Name x pos) env) Q E s := wpAny_Name (wpAny_loadName_local hk hl hn hv h) hd
theorem ldG {mg : Str → Option Value} {x : Str} {pos : Pos} {v : Value} {Q : Value → Shared → Prop} (hg : s.heap.Ns env.globals mg) (hv : mg x = some v) (h : Q v s)
    (hk : env.scope.kind = .function := by rfl) (hx : env.kindOf x = some .globalImplicit := by rfl) (hd : (x == ("__debug__" : Str)) = false := by decide) :
    wpAny M A (eval (.Name x pos) env) Q E s := Name_function_global hk hx (loadGlobal_global hg hv h) hd
theorem ldB {mg mb : Str → Option Value} {x : Str} {pos : Pos} {v : Value} {Q : Value → Shared → Prop} (hg : s.heap.Ns env.globals mg) (hm : mg x = none) (hb : s.heap.Ns env.builtins mb) (hv : mb x = some v) (h : Q v s)
    (hk : env.scope.kind = .function := by rfl) (hx : env.kindOf x = some .globalImplicit := by rfl) (hd : (x == ("__debug__" : Str)) = false := by decide) :
    wpAny M A (eval (.Name x pos) env) Q E s := Name_function_global hk hx (loadGlobal_builtin hg hm hb hv h) hd
theorem ldBW {Z : Zone} {g : Heap} {x : Str} {pos : Pos} {v : Value} {Q : Value → Shared → Prop} (W : WF Z g) (hs : Ext g s.heap) (hx : x ∈ usedB) (hv : bootBuiltins x = some v) (h : Q v s)
    (hg : env.globals = mainGlobals := by rfl) (hb : env.builtins = builtinsNs := by rfl)
    (hk : env.scope.kind = .function := by rfl) (hxk : env.kindOf x = some .globalImplicit := by rfl) (hd : (x == ("__debug__" : Str)) = false := by decide) :
    wpAny M A (eval (.Name x pos) env) Q E s :=
  ldB (mg := Z.mg) (mb := Z.mb) (by rw [hg]; exact W.g.keeps hs) (W.gNone x hx) (by rw [hb]; exact W.b.keeps hs) ((W.bAll x hx).trans hv) h hk hxk hd

/-- the names of a frame: it lies apart from what stands still -/
theorem stL {Z : Zone} {g : Heap} {s₀ : Shared} {m : Str → Option Value} {x : Str} {v : Value} {Q : Unit → Shared → Prop} (S : St Z g s₀ s) (hn : s.heap.Ns env.locals m) (hL : g.get? env.locals = none) (hnew : s₀.heap.objs.size ≤ env.locals)
    (h : ∀ s' : Shared, s'.heap.Ns env.locals (fun y => if y = x then some v else m y) → Heap.SameBut env.locals s.heap s'.heap → St Z g s₀ s' → Q () s')
    (hl : env.kindOf x = some .local := by rfl) (hp : (env.scope.kind == .class || (env.scope.kind == .module && env.locals != env.globals)) = false := by rfl) :
    wpAny M A (storeName env x v) Q E s :=
  wpAny_storeName_local hl hn (fun _ hn' hs => h _ hn' hs (S.same hL hnew hs)) hp
theorem len_le_line {l : List Value} (h : l.length ≤ 1000) : l.length ≤ sizeLine := by rw [sizeLine_eq]; omega
end

/-! own things beside a change -/
theorem noSeq_of_ns {h : Heap} {L : Addr} {m : Str → Option Value} (hn : h.Ns L m) : ∀ o, h.get? L = some o → ∀ xs n, o.data ≠ .seq xs n := by
  intro o ho xs n hd
  obtain ⟨o', es, ep, ho', hd', _⟩ := hn
  obtain rfl := Option.some.inj (ho.symm.trans ho')
  rw [hd] at hd'; cases hd'
theorem noSeq_of_fields {h : Heap} {a : Addr} {o : Obj} {vs} (ho : h.get? a = some o) (hd : o.data = .fields vs) : ∀ o, h.get? a = some o → ∀ xs n, o.data ≠ .seq xs n := by
  intro o' ho' xs n hd'
  obtain rfl := Option.some.inj (ho.symm.trans ho')
  rw [hd] at hd'; cases hd'
theorem IsKey.but {h h' : Heap} {r : Int} {a b : Addr} (x : IsKey h r a) (hb : ∀ o, h.get? b = some o → ∀ xs n, o.data ≠ .seq xs n) (hk : ∀ c o, c ≠ b → h.get? c = some o → h'.get? c = some o) : IsKey h' r a := by
  obtain ⟨o, t1, t2, t3, n, ho, hc, hd⟩ := x
  exact ⟨o, t1, t2, t3, n, hk _ _ (by rintro rfl; exact hb _ ho _ _ hd) ho, hc, hd⟩
theorem D.but {prog : Program} {w : World} {h h' : Heap} {d b : Addr} {xs : List Ent} (x : D prog w h d xs) (hne : d ≠ b) (hb : ∀ o, h.get? b = some o → ∀ xs n, o.data ≠ .seq xs n)
    (hk : ∀ c o, c ≠ b → h.get? c = some o → h'.get? c = some o) : D prog w h' d xs := by
  obtain ⟨o, es, ep, ho, hc, hd, he, his, hn⟩ := x
  exact ⟨o, es, ep, hk _ _ hne ho, hc, hd, he, fun y hy => kk_is.mpr ((kk_is.mp (his y hy)).but hb hk), hn⟩

def sumsI (ns : List Int) : List (Int × Int) := ns.foldl (fun c n => addI c (n.fmod 5, n.fdiv 5)) []

/-- a dict of counts -/
def Cnt (prog : Program) (w : World) (h : Heap) (d : Addr) (c : List (Int × Int)) : Prop :=
  (d == sysModules) = false ∧ ∃ xs : List Ent, D prog w h d xs ∧ IsInts xs ∧ absI xs = c ∧ InRange xs
end Mine
/-! M10 -/
namespace Mine
open PySem PySem.W PyProof.Rows PySem.Calls
set_option maxRecDepth 100000

theorem isList_ext {h h' : Heap} {a : Addr} {items : Array Value} (x : h.IsList a items) (e : Ext h h') : h'.IsList a items := let ⟨o, ho, r⟩ := x; ⟨o, e _ _ ho, r⟩
theorem intsAre_get {vs : List Value} {ns : List Int} (h : IntsAre vs ns) : ∀ {i : Nat} {n : Int}, ns[i]? = some n → ∃ t, vs[i]? = some (.int n t) := by
  induction h with
  | nil => intro i n hi; simp at hi
  | cons k t r ih =>
    intro i n hi
    cases i with
    | zero => simp at hi; subst hi; exact ⟨t, rfl⟩
    | succ j => simp at hi; simpa using ih hi
theorem fmod5_small (n : Int) : Small (n.fmod 5) := ⟨Int.fmod_nonneg_of_pos _ (by decide), Int.fmod_lt_of_pos _ (by decide)⟩

/-- what stands still, grown by what a call has made -/
def grow (g : Heap) (n : Nat) (h : Heap) (own : List Addr) : Heap := hideAll h (own ++ (List.range n).filter fun b => (g.get? b).isNone)
theorem grow_sub (g : Heap) (n : Nat) (h : Heap) (own : List Addr) : Ext (grow g n h own) h := fun _ _ e => of_hideAll _ e
theorem grow_get {g h : Heap} {n : Nat} {own : List Addr} {b : Addr} {o : Obj} (e : h.get? b = some o) (hb : b ∉ own) (hv : g.get? b ≠ none ∨ n ≤ b) : (grow g n h own).get? b = some o := by
  refine hideAll_get _ e fun hm => ?_
  rcases List.mem_append.mp hm with hm | hm
  · exact hb hm
  · rw [List.mem_filter, List.mem_range] at hm
    rcases hv with h1 | h1
    · exact h1 (by simpa using hm.2)
    · omega
theorem grow_none {g h : Heap} {n : Nat} {own : List Addr} {b : Addr} (hb : b < n) (hg : g.get? b = none) : (grow g n h own).get? b = none := by
  refine hideAll_none _ (List.mem_append_right _ ?_)
  rw [List.mem_filter, List.mem_range]
  exact ⟨hb, by rw [hg]; rfl⟩
theorem grow_own {g h : Heap} {n : Nat} {own : List Addr} {b : Addr} (hb : b ∈ own) : (grow g n h own).get? b = none := hideAll_none _ (List.mem_append_left _ hb)
theorem grow_old {g h : Heap} {n : Nat} {own : List Addr} (hs : Ext g h) (ho : ∀ a ∈ own, g.get? a = none) : ∀ b, b < n → (grow g n h own).get? b = g.get? b := by
  intro b hb
  cases q : g.get? b with
  | none => exact grow_none hb q
  | some o => exact grow_get (hs _ _ q) (fun hm => by rw [ho _ hm] at q; cases q) (.inl (by rw [q]; simp))
theorem grow_ext {g h : Heap} {n : Nat} {own : List Addr} (hs : Ext g h) (ho : ∀ a ∈ own, g.get? a = none) : Ext g (grow g n h own) :=
  fun b _ e => grow_get (hs _ _ e) (fun hm => by rw [ho _ hm] at e; cases e) (.inl (by rw [e]; simp))

theorem IsKey.grown {g h : Heap} {n : Nat} {own : List Addr} {r : Int} {a : Addr} (x : IsKey h r a) (hv : g.get? a ≠ none ∨ n ≤ a) (ho : ∀ a ∈ own, ∀ o, h.get? a = some o → ∀ xs k, o.data ≠ .seq xs k) : IsKey (grow g n h own) r a := by
  obtain ⟨o, t1, t2, t3, k, hg, hc, hd⟩ := x
  exact ⟨o, t1, t2, t3, k, grow_get hg (fun hm => ho _ hm _ hg _ _ hd) hv, hc, hd⟩
theorem D.grown {prog : Program} {w : World} {g h : Heap} {n : Nat} {own : List Addr} {d : Addr} {xs : List Ent} (x : D prog w h d xs) (hd : n ≤ d) (hdo : d ∉ own) (hv : ∀ y ∈ xs, g.get? y.2.1 ≠ none ∨ n ≤ y.2.1)
    (ho : ∀ a ∈ own, ∀ o, h.get? a = some o → ∀ xs k, o.data ≠ .seq xs k) : D prog w (grow g n h own) d xs := by
  obtain ⟨o, es, ep, hg, hc, hdat, he, his, hn⟩ := x
  exact ⟨o, es, ep, grow_get hg hdo (.inr hd), hc, hdat, he, fun y hy => kk_is.mpr ((kk_is.mp (his y hy)).grown (hv y hy) ho), hn⟩

/-- the end of a call: what it has made stands still from here -/
theorem Back.of {Z : Zone} {g : Heap} {s s' : Shared} {Post : Heap → Value → Prop} {v : Value} (S : St Z g s s') (own : List Addr) (ho : ∀ a ∈ own, g.get? a = none)
    (hp : Post (grow g s.heap.objs.size s'.heap own) v) : Back Z g s Post v s' (grow g s.heap.objs.size s'.heap own) where
  st := { S with sub := grow_sub _ _ _ _, gP := grow_none S.tab₀.2 S.gP }
  ext := grow_ext S.sub ho
  own := grow_old S.sub ho
  post := hp

theorem key_new (h : Heap) (r : Int) (t1 t2 t3 : Tok) : IsKey (h.push { cls := .type "tuple", data := .seq [Value.str fileS t1, Value.int r t2, Value.str fS t3].toArray }) r h.objs.size :=
  ⟨_, t1, t2, t3, 0, Heap.get?_push_size _ rfl, rfl, rfl⟩

theorem stored_addrs {xs : List Ent} {k : Int} {a : Addr} {v : Value} : ∀ y ∈ storedH xs k a v, (∃ z ∈ xs, y.2.1 = z.2.1) ∨ y.2.1 = a := by
  intro y hy
  unfold storedH at hy
  split at hy
  · obtain ⟨z, hz, rfl⟩ := List.mem_map.mp hy
    refine .inl ⟨z, hz, ?_⟩
    unfold putAt
    split <;> rfl
  · rcases List.mem_append.mp hy with h | h
    · exact .inl ⟨y, h, rfl⟩
    · rw [List.mem_singleton] at h; subst h; exact .inr rfl
theorem D.noDict {prog : Program} {w : World} {h : Heap} {d : Addr} {xs : List Ent} (x : D prog w h d xs) : ∀ a, Value.ref d = .ref a → ∃ ob, h.get? a = some ob ∧ ob.dict = none := by
  intro a e
  cases e
  obtain ⟨o, _, _, ho, hc, _⟩ := x
  exact ⟨o, ho, hc.2.1⟩

theorem fresh_none {Z : Zone} {g : Heap} {s₀ s : Shared} (S : St Z g s₀ s) {a : Addr} (h : s.heap.objs.size ≤ a) : g.get? a = none := by
  cases q : g.get? a with
  | none => rfl
  | some o => exact absurd (Heap.lt_size (S.sub _ _ q)) (Nat.not_lt.mpr h)

section
variable {prog : Program} {w : World} {A : Around} {s : Shared} {Z : Zone} {g : Heap}

theorem sums_spec {l : Addr} {vs : List Value} {ns : List Int} {n : Nat} (Rm : Room A (n + 2)) (S : St Z g s s) (W : WF Z g) (hl : g.IsList l vs.toArray) (hia : IntsAre vs ns) (hsz : sysModules < s.heap.objs.size) :
    codeAny (model prog w) A (.call (.ref Z.fSums) ⟨[.ref l], []⟩)
      (Gives Z g s fun g' v => ∃ d, v = .ref d ∧ s.heap.objs.size ≤ d ∧ Cnt prog w g' d (sumsI ns)) s := by
  obtain ⟨cd, hF⟩ := W.nSums
  refine call_fn (binds := [(Str.ofString "row", .ref l)]) (n := n + 1) Rm S W hF (fun nm dc pm an ct => rfl) (by decide +kernel) (locs rfl) (fun L h₁ hL hns S₁ => ?_) rfl rfl rfl
  have gL : g.get? L = none := fresh_none S hL
  generalize hA : A.deeper (mkEnv dSums L Z.fSums (Str.ofString "_law_sums") cd) = A'
  have Rm' : Room A' (n + 1) := hA ▸ Rm.deeper _
  generalize s.toks + [(Str.ofString "row", Value.ref l)].length = tk at *
  -- found = {}
  refine wpAny_execs_cons (wpAny_Assign_Name (wpAny_Dict_empty ?_))
  have S₂ := S₁.push (tk := tk) { cls := .type "dict", data := .dict #[] }
  have hd₀ : D prog w (h₁.push { cls := .type "dict", data := .dict #[] }) h₁.objs.size [] := D.new h₁
  have hns₂ := hns.push { cls := .type "dict", data := .dict #[] }
  have hdL : h₁.objs.size ≠ L := Nat.ne_of_gt hns.lt
  have hds : s.heap.objs.size ≤ h₁.objs.size := S₁.size
  have gd : g.get? h₁.objs.size = none := fresh_none S₁ (Nat.le_refl _)
  generalize hdd : h₁.objs.size = d at *
  generalize h₁.push { cls := .type "dict", data := .dict #[] } = h₂ at *
  refine stL S₂ hns₂ gL hL (fun s₃ hns₃ hs₃ S₃ => ?_)
  have hd₃ := hd₀.but hdL (noSeq_of_ns hns₂) hs₃.extBut
  -- the loop
  refine wpAny_execs_cons (wpAny_For (ldL hns₃ rfl ?_))
  refine wpAny_pyIter_list (isList_ext hl S₃.sub) ?_
  have S₄ := S₃.push (tk := s₃.toks) { cls := .type "list_iterator", data := .fields #[.ref l, .int 0 0] }
  have hit₄ : (s₃.heap.push { cls := .type "list_iterator", data := .fields #[.ref l, .int 0 0] }).IsListIter s₃.heap.objs.size l 0 := ⟨_, Heap.get?_push_size _ rfl, rfl, rfl⟩
  have hd₄ := hd₃.ext (Ext.push s₃.heap { cls := .type "list_iterator", data := .fields #[.ref l, .int 0 0] })
  have hns₄ := hns₃.push { cls := .type "list_iterator", data := .fields #[.ref l, .int 0 0] }
  have git : g.get? s₃.heap.objs.size = none := fresh_none S₃ (Nat.le_refl _)
  have hitn : s.heap.objs.size ≤ s₃.heap.objs.size := S₃.size
  have hLi : L ≠ s₃.heap.objs.size := Nat.ne_of_lt hns₃.lt
  have hdi : d ≠ s₃.heap.objs.size := Nat.ne_of_lt hd₃.lt
  generalize s₃.heap.objs.size = it at *
  generalize s₃.heap.push { cls := .type "list_iterator", data := .fields #[.ref l, .int 0 0] } = h₄ at *
  refine codeAny_forLoop (fun k s' => ∃ i m xs, k = ns.length - i ∧ i ≤ ns.length ∧ St Z g s s' ∧ s'.heap.Ns L m ∧ m (Str.ofString "found") = some (.ref d) ∧ s'.heap.IsListIter it l i ∧
    D prog w s'.heap d xs ∧ IsInts xs ∧ absI xs = sumsI (ns.take i) ∧ InRange xs ∧ ∀ y ∈ xs, g.get? y.2.1 ≠ none ∨ s.heap.objs.size ≤ y.2.1) ?_ ns.length
    ⟨0, _, [], rfl, Nat.zero_le _, S₄, hns₄, rfl, hit₄, hd₄, (fun _ h => nomatch h), rfl, (fun _ h => nomatch h), (fun _ h => nomatch h)⟩
  rintro k s' ⟨i, m, xs, rfl, hi, S', hns', hm, hit, hd', hI, hab, hR, hV⟩
  by_cases hlt : i < ns.length
  · obtain ⟨tn, hvn⟩ := intsAre_get hia (List.getElem?_eq_getElem hlt)
    refine wpAny_pyNext_list_item hit (isList_ext hl S'.sub) (x := .int ns[i] tn) (by simpa using hvn) fun h₅ hit₅ hs₅ => ?_
    have S₅ := S'.same (tk := s'.toks) git hitn hs₅
    have hns₅ := hns'.sameBut hs₅ hLi
    have hd₅ := hd'.but hdi (let ⟨_, ho, _, hdat⟩ := hit; noSeq_of_fields ho hdat) hs₅.extBut
    refine wpAny_assign_Name (stL S₅ hns₅ gL hL fun s₆ hns₆ hs₆ S₆ => ?_)
    have hit₆ := hit₅.extBut hs₆.extBut (Ne.symm hLi)
    have hd₆ := hd₅.but hdL (noSeq_of_ns hns₅) hs₆.extBut
    -- key = ('file', number % 5, 'f')
    refine wpAny_execs_cons (wpAny_Assign_Name (wpAny_Tuple ?_))
    refine wpAny_items_cons (wpAny_Constant_str ?_)
    refine wpAny_items_cons (wpAny_BinOp (ldL hns₆ rfl (wpAny_Constant_int (mod_int' (by decide) ?_))))
    refine wpAny_items_cons (wpAny_Constant_str (wpAny_items_nil ⟨len_le_line (by simp), ?_⟩))
    dsimp only
    refine stL (S₆.push _) (hns₆.push _) gL hL fun s₈ hns₈ hs₈ S₈ => ?_
    have hkey₈ : IsKey s₈.heap (ns[i].fmod 5) s₆.heap.objs.size := (key_new s₆.heap (ns[i].fmod 5) _ _ _).but (noSeq_of_ns (hns₆.push _)) hs₈.extBut
    have hd₈ := (hd₆.ext (Ext.push s₆.heap _)).but hdL (noSeq_of_ns (hns₆.push _)) hs₈.extBut
    have hit₈ := (hit₆.at fun o e => Heap.get?_push_of_some _ e).extBut hs₈.extBut (Ne.symm hLi)
    have hka : s.heap.objs.size ≤ s₆.heap.objs.size := S₆.size
    generalize s₆.heap.objs.size = ka at *
    -- found[key] = found.get(key, 0) + number // 5
    refine wpAny_execs_cons (wpAny_Assign_Subscript (wpAny_BinOp (wpAny_Call_method2_late rfl rfl rfl (ldL hns₈ (v := .ref d) ?_ ?_))))
    · exact hm
    refine ⟨"dict", "dict.get", F.plainAttrs_dict, F.slot_dict_get, F.type_dict_get, hd₈.typeIs, hd₈.noDict, ?_⟩
    have hu : A'.units + 1 < cLine := by have := Rm'.unit; omega
    refine wpAny_dict_get2_heap (kk_room hu) ?_ (ldL hns₈ rfl (wpAny_Constant_int ⟨ka, _, xs, rfl, kk_is.mpr hkey₈, hd₈, ?_⟩))
    · exact beq_eq_false_iff_ne.mpr (Nat.ne_of_gt (Nat.lt_of_lt_of_le hsz hds))
    obtain ⟨t', ht'⟩ := atKey_get hI (ns[i].fmod 5) s₈.toks
    rw [ht']
    refine wpAny_BinOp (ldL hns₈ rfl (wpAny_Constant_int (floordiv_int (by decide) (add_int ?_))))
    refine ldL hns₈ (v := .ref d) ?_ (ldL hns₈ rfl ?_)
    · exact hm
    dsimp only
    refine wpAny_setItem_heap (kk_room hu) (kk_is.mpr hkey₈) hd₈ (fun h₉ hd₉ hs₉ => ?_) ?_
    · refine wpAny_execs_nil ⟨ns.length - (i + 1), by omega, i + 1, _, _, rfl, hlt, S₈.same gd hds hs₉, hns₈.sameBut hs₉ (Ne.symm hdL), hm, hit₈.extBut hs₉.extBut (Ne.symm hdi), hd₉, stored_isInts hI, ?_, ?_, ?_⟩
      · rw [stored_absI, hab, List.take_succ_eq_append_getElem hlt]
        unfold sumsI
        rw [List.foldl_append]
        rfl
      · intro x hx
        rcases stored_keys x.1 (List.mem_map.mpr ⟨x, hx, rfl⟩) with h | h
        · obtain ⟨y, hy, e⟩ := List.mem_map.mp h
          rw [← e]; exact hR y hy
        · rw [h]; exact fmod5_small _
      · intro y hy
        rcases stored_addrs y hy with ⟨z, hz, e⟩ | e
        · rw [e]; exact hV z hz
        · rw [e]; exact .inr hka
    · have : xs.length ≤ 5 := by
        rw [← List.length_map (f := (·.1))]
        exact small_length hd'.nodup (fun r hr => let ⟨y, hy, e⟩ := List.mem_map.mp hr; e ▸ hR y hy)
      rw [sizeLine_eq]; omega
  · have hin : i = ns.length := by omega
    refine wpAny_pyNext_list_end Rm'.hd hit (isList_ext hl S'.sub) (by rw [hin, ← hia.length]; simp) fun h₅ he => ?_
    have hns₅ := hns'.extBut he hLi
    have S₅ := S'.but (tk := s'.toks) it git hitn he (Nat.le_trans hL (Nat.le_of_lt hns₅.lt))
    have hd₅ := hd'.but hdi (let ⟨o, ho, _, hdat⟩ := hit; noSeq_of_fields ho hdat) he
    refine wpAny_execs_nil ?_
    refine wpAny_execs_cons (wpAny_Return_some (ldL hns₅ hm ?_))
    refine ⟨_, _, rfl, Back.of S₅ [] (fun _ h => nomatch h) ⟨d, rfl, hds, ?_, xs, hd₅.grown hds (fun h => nomatch h) hV (fun _ h => nomatch h), hI, ?_, hR⟩⟩
    · have : sysModules < d := Nat.lt_of_lt_of_le hsz hds
      exact beq_eq_false_iff_ne.mpr (Nat.ne_of_gt this)
    · rw [hab, hin, List.take_length]
end
end Mine
/-! M11 -/
namespace Mine
open PySem PySem.W PyProof.Rows PySem.Calls
set_option maxRecDepth 100000

def sumV (c : List (Int × Int)) : Int := (c.map (·.2)).sum

section
variable {prog : Program} {w : World} {A : Around} {s : Shared} {Z : Zone} {g : Heap}

theorem D.rawAt {h : Heap} {d : Addr} {xs : List Ent} (x : D prog w h d xs) : ∃ es ep, Raw h d es ep ∧ es.size = xs.length ∧ ∀ (i : Nat) (y : Ent), xs[i]? = some y → es[i]? = some ⟨(kk prog w).hash y.1, .ref y.2.1, y.2.2⟩ := by
  obtain ⟨es, ep, hr, he⟩ := x.raw
  refine ⟨es, ep, hr, size_of_entries he, fun i y hy => ?_⟩
  rw [entry_at he i, hy]; rfl

theorem cnt_spec {d : Addr} {c : List (Int × Int)} {n : Nat} (Rm : Room A (n + 2)) (S : St Z g s s) (W : WF Z g) (hc : Cnt prog w g d c) :
    codeAny (model prog w) A (.call (.ref Z.fCnt) ⟨[.ref d], []⟩)
      (Gives Z g s fun _ v => ∃ t, v = .int (sumV c) t) s := by
  obtain ⟨cd, hF⟩ := W.nCnt
  obtain ⟨hdS, xs, hD, hI, rfl, hR⟩ := hc
  refine call_fn (binds := [(Str.ofString "callers", .ref d)]) (n := n + 1) Rm S W hF (fun nm dc pm an ct => rfl) (by decide +kernel) (locs rfl) (fun L h₁ hL hns S₁ => ?_) rfl rfl rfl
  have gL : g.get? L = none := fresh_none S hL
  generalize hA : A.deeper (mkEnv dCnt L Z.fCnt (Str.ofString "count_calls") cd) = A'
  have Rm' : Room A' (n + 1) := hA ▸ Rm.deeper _
  generalize s.toks + [(Str.ofString "callers", Value.ref d)].length = tk at *
  obtain ⟨es, ep, hraw, hes, hget⟩ := hD.rawAt
  refine wpAny_execs_cons (wpAny_Assign_Name (wpAny_Constant_int (stL (S₁.tok) hns gL hL fun s₂ hns₂ hs₂ S₂ => ?_)))
  refine wpAny_execs_cons (wpAny_For (wpAny_Call_method0_late rfl rfl (ldL hns₂ rfl ?_)))
  refine ⟨"dict", "dict.values", F.plainAttrs_dict, F.slot_dict_values, F.type_dict_values, (hD.ext S₂.sub).typeIs, (hD.ext S₂.sub).noDict, ?_⟩
  refine raw_values hdS (hraw.ext S₂.sub) ?_
  refine raw_iter_values (d := d) ⟨_, Heap.get?_push_size _ rfl, rfl, rfl⟩ ((hraw.ext S₂.sub).push _) ?_
  dsimp only
  have S₃ := (S₂.push (tk := s₂.toks) { cls := .type "dict_values", data := .fields #[.ref d] })
  have hns₃ := hns₂.push { cls := .type "dict_values", data := .fields #[.ref d] }
  generalize s₂.heap.push { cls := .type "dict_values", data := .fields #[.ref d] } = h₃ at *
  have S₄ := S₃.push (tk := s₂.toks) { cls := .type "dict_valueiterator", data := .fields #[.ref d, .int 0 0, .int es.size 0, .int ep 0] }
  have hit₄ : (h₃.push { cls := .type "dict_valueiterator", data := .fields #[.ref d, .int 0 0, .int es.size 0, .int ep 0] }).IsValIter h₃.objs.size d 0 es.size ep := ⟨_, Heap.get?_push_size _ rfl, rfl, rfl⟩
  have hns₄ := hns₃.push { cls := .type "dict_valueiterator", data := .fields #[.ref d, .int 0 0, .int es.size 0, .int ep 0] }
  have git : g.get? h₃.objs.size = none := fresh_none S₃ (Nat.le_refl _)
  have hitn : s.heap.objs.size ≤ h₃.objs.size := S₃.size
  have hLi : L ≠ h₃.objs.size := Nat.ne_of_lt hns₃.lt
  dsimp only at S₄
  generalize h₃.objs.size = it at *
  generalize h₃.push { cls := .type "dict_valueiterator", data := .fields #[.ref d, .int 0 0, .int es.size 0, .int ep 0] } = h₄ at *
  refine codeAny_forLoop (fun k s' => ∃ i m, k = xs.length - i ∧ i ≤ xs.length ∧ St Z g s s' ∧ s'.heap.Ns L m ∧ (∃ t, m (Str.ofString "nc") = some (.int (sumV ((absI xs).take i)) t)) ∧ s'.heap.IsValIter it d i es.size ep) ?_ xs.length
    ⟨0, _, rfl, Nat.zero_le _, S₄, hns₄, ⟨_, rfl⟩, hit₄⟩
  rintro k s' ⟨i, m, rfl, hi, S', hns', ⟨t, hm⟩, hit⟩
  by_cases hlt : i < xs.length
  · have hx := List.getElem?_eq_getElem hlt
    refine raw_next_value hit (hraw.ext S'.sub) (hget i _ hx) fun h₅ hit₅ hs₅ => ?_
    have S₅ := S'.same (tk := s'.toks) git hitn hs₅
    have hns₅ := hns'.sameBut hs₅ hLi
    obtain ⟨tv, hv⟩ := hI xs[i] (List.getElem_mem hlt)
    dsimp only
    rw [hv]
    refine wpAny_assign_Name (stL S₅ hns₅ gL hL fun s₆ hns₆ hs₆ S₆ => ?_)
    have hit₆ := hit₅.extBut hs₆.extBut (Ne.symm hLi)
    refine wpAny_execs_cons (wpAny_AugAssign_Name (wpAny_loadName_local rfl rfl hns₆ (v := .int (sumV ((absI xs).take i)) t) hm (ldL hns₆ rfl (iadd_int ?_))))
    refine stL (S₆.tok) hns₆ gL hL fun s₇ hns₇ hs₇ S₇ => ?_
    refine wpAny_execs_nil ⟨xs.length - (i + 1), by omega, i + 1, _, rfl, hlt, S₇, hns₇, ⟨s₆.toks, ?_⟩, hit₆.extBut hs₇.extBut (Ne.symm hLi)⟩
    have hl : i < (absI xs).length := by rw [absI, List.length_map]; exact hlt
    rw [List.take_succ_eq_append_getElem hl]
    unfold sumV
    rw [List.map_append, List.sum_append]
    simp [absI]
  · have hin : i = xs.length := by omega
    refine raw_next_value_end Rm'.hd hit (hraw.ext S'.sub) (by rw [hes, hin]; exact Nat.le_refl _) fun h₅ he => ?_
    have hns₅ := hns'.extBut he hLi
    have S₅ := S'.but (tk := s'.toks) it git hitn he (Nat.le_trans hL (Nat.le_of_lt hns₅.lt))
    refine wpAny_execs_nil ?_
    refine wpAny_execs_cons (wpAny_Return_some (ldL hns₅ hm ?_))
    refine ⟨_, _, rfl, Back.of S₅ [] (fun _ h => nomatch h) ⟨t, ?_⟩⟩
    rw [hin, List.take_of_length_le (by simp [absI])]
end
end Mine
/-! M12 -/
namespace Mine
open PySem PySem.W PyProof.Rows PySem.Calls
set_option maxRecDepth 100000

/-! ### dicts whose values stand for data of a kind -/
/-- no tuple or list lies at b -/
def NoSeq (h : Heap) (b : Addr) : Prop := ∀ o, h.get? b = some o → ∀ xs n, o.data ≠ .seq xs n
/-- all tuples and lists are as they were -/
def SeqKept (h h' : Heap) : Prop := ∀ c o xs n, o.data = .seq xs n → h.get? c = some o → h'.get? c = some o
theorem SeqKept.ext {h h' : Heap} (e : Ext h h') : SeqKept h h' := fun c o _ _ _ q => e c o q
theorem SeqKept.trans {a b c : Heap} (x : SeqKept a b) (y : SeqKept b c) : SeqKept a c := fun p o xs n hd q => y p o xs n hd (x p o xs n hd q)
theorem SeqKept.but {h h' : Heap} {b : Addr} (hb : NoSeq h b) (hk : ∀ c o, c ≠ b → h.get? c = some o → h'.get? c = some o) : SeqKept h h' :=
  fun c o xs n hd q => hk c o (fun e => hb o (e ▸ q) xs n hd) q
theorem SeqKept.but2 {h h' : Heap} {b b' : Addr} (hb : NoSeq h b) (hb' : NoSeq h b') (hk : ∀ c o, c ≠ b → c ≠ b' → h.get? c = some o → h'.get? c = some o) : SeqKept h h' :=
  fun c o xs n hd q => hk c o (fun e => hb o (e ▸ q) xs n hd) (fun e => hb' o (e ▸ q) xs n hd) q
theorem noSeq_dict {prog : Program} {w : World} {h : Heap} {d : Addr} {xs : List Ent} (x : D prog w h d xs) : NoSeq h d := by
  obtain ⟨o, es, ep, ho, _, hd, _⟩ := x
  intro o' ho' ys n hd'
  obtain rfl := Option.some.inj (ho.symm.trans ho')
  rw [hd] at hd'; cases hd'
theorem noSeq_tab {Z : Zone} {h : Heap} (x : Z.Tab h) : NoSeq h Z.P := by
  obtain ⟨more, _, ⟨_, ht⟩, _⟩ := x
  intro o' ho' ys n hd'
  obtain rfl := Option.some.inj (ht.symm.trans ho')
  cases hd'
theorem IsKey.kept {h h' : Heap} {r : Int} {a : Addr} (x : IsKey h r a) (k : SeqKept h h') : IsKey h' r a := by
  obtain ⟨o, t1, t2, t3, n, ho, hc, hd⟩ := x
  exact ⟨o, t1, t2, t3, n, k _ _ _ _ hd ho, hc, hd⟩
theorem D.kept {prog : Program} {w : World} {h h' : Heap} {d : Addr} {xs : List Ent} (x : D prog w h d xs) (hd : ∀ o, h.get? d = some o → h'.get? d = some o) (k : SeqKept h h') : D prog w h' d xs := by
  obtain ⟨o, es, ep, ho, hc, hdat, he, his, hn⟩ := x
  exact ⟨o, es, ep, hd _ ho, hc, hdat, he, fun y hy => kk_is.mpr ((kk_is.mp (his y hy)).kept k), hn⟩
theorem isTuple_kept {h h' : Heap} {a : Addr} {items : Array Value} (x : h.IsTuple a items) (k : SeqKept h h') : h'.IsTuple a items := let ⟨o, ho, hc, n, hd⟩ := x; ⟨o, k _ _ _ _ hd ho, hc, n, hd⟩

structure Rep (α : Type) where
  rep : Heap → Value → α → Prop
  kept : ∀ {h h' : Heap} {v : Value} {x : α}, rep h v x → SeqKept h h' → rep h' v x
  grown : ∀ {g h : Heap} {n : Nat} {v : Value} {x : α}, rep h v x → (∀ p, v = .ref p → g.get? p ≠ none ∨ n ≤ p) → rep (grow g n h []) v x
  vis : ∀ {h : Heap} {v : Value} {x : α}, rep h v x → ∀ p, v = .ref p → h.get? p ≠ none

def repI : Rep Int where
  rep := fun _ v x => ∃ t, v = .int x t
  kept := fun h _ => h
  grown := fun h _ => h
  vis := fun h p e => by obtain ⟨t, ht⟩ := h; rw [e] at ht; cases ht

inductive Ents {α : Type} (R : Value → α → Prop) : List Ent → List (Int × α) → Prop
  | nil : Ents R [] []
  | cons {k : Int} {a : Addr} {v : Value} {x : α} {xs : List Ent} {c : List (Int × α)} : R v x → Ents R xs c → Ents R ((k, a, v) :: xs) ((k, x) :: c)

section
variable {α : Type} {R R' : Value → α → Prop}
theorem Ents.mono {xs : List Ent} {c : List (Int × α)} (h : Ents R xs c) (hr : ∀ y ∈ xs, ∀ x, R y.2.2 x → R' y.2.2 x) : Ents R' xs c := by
  induction h with
  | nil => exact .nil
  | cons h1 _ ih => exact .cons (hr _ List.mem_cons_self _ h1) (ih fun y hy => hr y (List.mem_cons_of_mem _ hy))
theorem Ents.keys {xs : List Ent} {c : List (Int × α)} (h : Ents R xs c) : c.map (·.1) = xs.map (·.1) := by
  induction h with
  | nil => rfl
  | cons _ _ ih => simp [ih]
theorem Ents.length {xs : List Ent} {c : List (Int × α)} (h : Ents R xs c) : xs.length = c.length := by
  induction h with
  | nil => rfl
  | cons _ _ ih => simp [ih]
theorem Ents.append {xs ys : List Ent} {c e : List (Int × α)} (h : Ents R xs c) (h' : Ents R ys e) : Ents R (xs ++ ys) (c ++ e) := by
  induction h with
  | nil => exact h'
  | cons h1 _ ih => exact .cons h1 ih
theorem Ents.get {xs : List Ent} {c : List (Int × α)} (h : Ents R xs c) : ∀ {i : Nat} {y : Ent}, xs[i]? = some y → ∃ x, c[i]? = some (y.1, x) ∧ R y.2.2 x := by
  induction h with
  | nil => intro i y hy; simp at hy
  | cons h1 _ ih =>
    intro i y hy
    cases i with
    | zero => simp at hy; subst hy; exact ⟨_, rfl, h1⟩
    | succ j => simp at hy; simpa using ih hy
theorem Ents.take {xs : List Ent} {c : List (Int × α)} (h : Ents R xs c) : ∀ i, Ents R (xs.take i) (c.take i) := by
  induction h with
  | nil => intro i; simp; exact .nil
  | cons h1 _ ih =>
    intro i
    cases i with
    | zero => exact .nil
    | succ j => simp only [List.take_succ_cons]; exact .cons h1 (ih j)

/-- put together: the old one first -/
def addG (f : α → α → α) (c : List (Int × α)) (p : Int × α) : List (Int × α) :=
  if p.1 ∈ c.map (·.1) then c.map (fun q => if q.1 = p.1 then (q.1, f q.2 p.2) else q) else c ++ [p]

theorem Ents.stored {xs : List Ent} {c : List (Int × α)} {f : α → α → α} {k : Int} {a a₀ : Addr} {v v₀ : Value} {x : α} (h : Ents R xs c) (hm : ∀ v x, R v x → R' v x) (hn : (xs.map (·.1)).Nodup) (ha : atKey xs k = some (a₀, v₀))
    (h₀ : ∀ z, R v₀ z → R' v (f z x)) : Ents R' (storedH xs k a v) (addG f c (k, x)) := by
  have hk : k ∈ xs.map (·.1) := atKey_isSome.mp (by rw [ha]; rfl)
  rw [storedH_old ha]
  unfold addG
  rw [if_pos (by rw [h.keys]; exact hk)]
  have gen : ∀ {xs : List Ent} {c : List (Int × α)}, Ents R xs c → (xs.map (·.1)).Nodup → (∀ y ∈ xs, y.1 = k → y.2.2 = v₀) →
      Ents R' (xs.map (putAt k v)) (c.map (fun q => if q.1 = k then (q.1, f q.2 x) else q)) := by
    intro xs c h
    induction h with
    | nil => intro _ _; exact .nil
    | @cons k' a' v' x' xs' c' h1 _ ih =>
      intro hn hy
      rw [List.map_cons, List.map_cons]
      rw [List.map_cons, List.nodup_cons] at hn
      have ih' := ih hn.2 fun y hm => hy y (List.mem_cons_of_mem _ hm)
      by_cases e : k' = k
      · subst e
        have hv := hy (k', a', v') List.mem_cons_self rfl
        simp only at hv
        subst hv
        simp only [putAt, if_true]
        exact .cons (h₀ _ h1) ih'
      · simp only [putAt, if_neg e]
        exact .cons (hm _ _ h1) ih'
  refine gen h hn fun y hy e => ?_
  obtain ⟨j, hj⟩ := List.mem_iff_getElem?.mp hy
  have := atKey_of_get hn (k := k) (p := y.2) (by rw [hj, ← e])
  rw [ha] at this
  exact (congrArg Prod.snd (Option.some.inj this)).symm

theorem Ents.pushed {xs : List Ent} {c : List (Int × α)} {f : α → α → α} {k : Int} {a : Addr} {v : Value} {x : α} (h : Ents R xs c) (ha : atKey xs k = none) (hv : R v x) : Ents R (storedH xs k a v) (addG f c (k, x)) := by
  rw [storedH_new ha]
  unfold addG
  rw [if_neg]
  · exact h.append (.cons hv .nil)
  · rw [h.keys]
    intro hm
    have := atKey_isSome.mpr hm
    rw [ha] at this; cases this
end

/-- a dict of such -/
def CntG {α : Type} (R : Rep α) (prog : Program) (w : World) (h : Heap) (d : Addr) (c : List (Int × α)) : Prop :=
  (d == sysModules) = false ∧ ∃ xs : List Ent, D prog w h d xs ∧ Ents (R.rep h) xs c ∧ InRange xs

theorem ents_ints {xs : List Ent} {c : List (Int × Int)} (h : Ents (fun v x => ∃ t, v = .int x t) xs c) : IsInts xs ∧ absI xs = c := by
  induction h with
  | nil => exact ⟨(fun _ h => nomatch h), rfl⟩
  | cons h1 _ ih =>
    obtain ⟨t, rfl⟩ := h1
    refine ⟨fun y hy => ?_, ?_⟩
    · rcases List.mem_cons.mp hy with rfl | hy
      · exact ⟨t, rfl⟩
      · exact ih.1 y hy
    · simp only [absI, List.map_cons, intOf]
      congr 1
      exact ih.2
theorem ints_ents {xs : List Ent} (h : IsInts xs) : Ents (fun v x => ∃ t, v = .int x t) xs (absI xs) := by
  induction xs with
  | nil => exact .nil
  | cons x r ih =>
    obtain ⟨k, a, v⟩ := x
    exact .cons (h _ List.mem_cons_self) (ih fun y hy => h y (List.mem_cons_of_mem _ hy))
theorem cnt_iff {prog : Program} {w : World} {h : Heap} {d : Addr} {c : List (Int × Int)} : Cnt prog w h d c ↔ CntG repI prog w h d c := by
  constructor
  · rintro ⟨h0, xs, hD, hI, rfl, hR⟩
    exact ⟨h0, xs, hD, ints_ents hI, hR⟩
  · rintro ⟨h0, xs, hD, hE, hR⟩
    obtain ⟨hI, hc⟩ := ents_ints hE
    exact ⟨h0, xs, hD, hI, hc, hR⟩
end Mine
/-! M13 -/
namespace Mine
open PySem PySem.W PyProof.Rows PySem.Calls
set_option maxRecDepth 100000

/-- the statement «if isinstance(caller, tuple): .. else: ..» of add_callers -/
def innerIf : Stmt := match bodyOf dAdd with
  | [_, _, .For _ _ [.If _ [i] _ _] _ _, _] => i
  | _ => .Pass ⟨0, 0, 0, 0⟩
abbrev addS : Str := Str.ofString "add_callers"

theorem St.keep {Z : Zone} {g : Heap} {s₀ s : Shared} (S : St Z g s₀ s) {h' : Heap} {tk : Nat} (hk : Ext s.heap h') (hs : s₀.heap.objs.size ≤ h'.objs.size) : St Z g s₀ { s with heap := h', toks := tk } :=
  S.step (fun _ => False) (fun _ h => h.elim) (fun b o _ e => hk b o e) hs

theorem keys_short {prog : Program} {w : World} {h : Heap} {d : Addr} {xs : List Ent} (x : D prog w h d xs) (hR : InRange xs) : xs.length ≤ 5 := by
  rw [← List.length_map (f := (·.1))]
  exact small_length x.nodup (fun r hr => let ⟨y, hy, e⟩ := List.mem_map.mp hr; e ▸ hR y hy)

def Vis (g : Heap) (n : Nat) (y : Ent) : Prop := (g.get? y.2.1 ≠ none ∨ n ≤ y.2.1) ∧ ∀ p, y.2.2 = .ref p → g.get? p ≠ none ∨ n ≤ p

theorem stored_vals {xs : List Ent} {k : Int} {a : Addr} {v : Value} : ∀ y ∈ storedH xs k a v, (∃ z ∈ xs, y.2.1 = z.2.1 ∨ y.2.1 = a) ∨ y.2.1 = a := by
  intro y hy
  rcases stored_addrs y hy with ⟨z, hz, e⟩ | e
  · exact .inl ⟨z, hz, .inl e⟩
  · exact .inr e
theorem stored_vis {g : Heap} {n : Nat} {xs : List Ent} {k : Int} {a : Addr} {v : Value} (h : ∀ y ∈ xs, Vis g n y) (ha : g.get? a ≠ none ∨ n ≤ a) (hv : ∀ p, v = .ref p → g.get? p ≠ none ∨ n ≤ p) :
    ∀ y ∈ storedH xs k a v, Vis g n y := by
  intro y hy
  unfold storedH at hy
  split at hy
  · obtain ⟨z, hz, rfl⟩ := List.mem_map.mp hy
    unfold putAt
    split
    · exact ⟨(h z hz).1, hv⟩
    · exact h z hz
  · rcases List.mem_append.mp hy with hy | hy
    · exact h y hy
    · rw [List.mem_singleton] at hy; subst hy; exact ⟨ha, hv⟩
theorem stored_inRange {xs : List Ent} {k : Int} {a : Addr} {v : Value} (h : InRange xs) (hk : Small k) : InRange (storedH xs k a v) := by
  intro x hx
  rcases stored_keys x.1 (List.mem_map.mpr ⟨x, hx, rfl⟩) with h' | h'
  · obtain ⟨y, hy, e⟩ := List.mem_map.mp h'
    rw [← e]; exact h y hy
  · rw [h']; exact hk

section
variable {prog : Program} {w : World} {A : Around} {s : Shared} {Z : Zone} {g : Heap}

theorem pair_bound {env : Env} {xk xv : Str} {pk pv pt : Pos} {x1 : Nat} {it d T : Addr} {i n ep : Nat} {ok ov : Value} {m : Str → Option Value} {s₀ : Shared} {Q : Unit → Shared → Prop} {E E' : Value → Shared → Prop} (hh : A.handled = none)
    (S : St Z g s₀ s) (hns : s.heap.Ns env.locals m) (hL : g.get? env.locals = none) (hnew : s₀.heap.objs.size ≤ env.locals) (git : g.get? it = none) (hitn : s₀.heap.objs.size ≤ it) (hiL : env.locals ≠ it)
    (hit : IsItemIterOut s.heap it d i n ep ok ov T) (hT : s.heap.get? T = some { cls := .type "tuple", data := .seq #[ok, ov] })
    (h : ∀ s' : Shared, St Z g s₀ s' → s'.heap.Ns env.locals (fun y => if y = xv then some ov else if y = xk then some ok else m y) → IsItemIter s'.heap it d i n ep ok ov →
      (∀ b o, b ≠ env.locals → b ≠ it → s.heap.get? b = some o → s'.heap.get? b = some o) → Q () s')
    (hxk : env.kindOf xk = some .local := by rfl) (hxv : env.kindOf xv = some .local := by rfl) (hp : (env.scope.kind == .class || (env.scope.kind == .module && env.locals != env.globals)) = false := by rfl) :
    wpAny (model prog w) A (letOwnedTupleGo (.Tuple [.Name xk pk, .Name xv pv] x1 pt) (.ref it) (.ref T)) (fun _ s₁ => wpAny (model prog w) A (assign (.Tuple [.Name xk pk, .Name xv pv] x1 pt) env (.ref T)) Q E s₁) E' s := by
  refine wpAny_letOwnedTupleGo_items hit fun h₁ hit₁ hs₁ => ?_
  have hTi : T ≠ it := by
    rintro rfl
    have e := Option.some.inj (hT.symm.trans hit)
    injection e with e1
    injection e1 with e2
    exact absurd e2 (by decide)
  have S₁ := S.same (tk := s.toks) git hitn hs₁
  have hns₁ := hns.sameBut hs₁ hiL
  have ht₁ : h₁.IsTuple T #[ok, ov] := ⟨_, hs₁.extBut _ _ hTi hT, rfl, 0, rfl⟩
  refine wpAny_assign_Tuple hh ht₁ rfl rfl fun h₂ he₂ => ?_
  have e₂ : Ext h₁ h₂ := fun b o e => he₂ b o (Nat.ne_of_lt (Heap.lt_size e)) e
  have hns₂ := hns₁.keeps e₂
  have S₂ := S₁.keep (tk := s.toks) e₂ (Nat.le_trans hnew (Nat.le_of_lt hns₂.lt))
  show wpAny _ _ (do holding [ov] (assign (.Name xk pk) env ok); do holding [] (assign (.Name xv pv) env ov); pure ()) _ _ _
  refine wpAny_bind (wpAny_holding (wpAny_assign_Name (stL S₂ hns₂ hL hnew (fun s₃ hns₃ hs₃ S₃ => ?_) hxk hp)))
  refine wpAny_bind (wpAny_holding (wpAny_assign_Name (stL S₃ hns₃ hL hnew (fun s₄ hns₄ hs₄ S₄ => ?_) hxv hp)))
  refine wpAny_pure (h s₄ S₄ hns₄ ?_ fun b o hbL hbi e => ?_)
  · exact hs₄.extBut _ _ (Ne.symm hiL) (hs₃.extBut _ _ (Ne.symm hiL) (e₂ _ _ hit₁))
  · exact hs₄.extBut _ _ hbL (hs₃.extBut _ _ hbL (e₂ _ _ (hs₁.extBut _ _ hbi e)))

/-- what the inner statement has to do -/
def InnerOk {α : Type} (prog : Program) (w : World) (Z : Zone) (g : Heap) (s : Shared) (n : Nat) (Rp : Rep α) (f : α → α → α) : Prop :=
  ∀ (A' : Around) (L d a a₀ : Addr) (s' : Shared) (m : Str → Option Value) (xs : List Ent) (k : Int) (v₀ v : Value) (x : α) (Q : Flow → Shared → Prop) (E : Value → Shared → Prop),
    Room A' n → St Z g s s' → s'.heap.Ns L m → g.get? L = none → s.heap.objs.size ≤ L → m (Str.ofString "new_callers") = some (.ref d) → m (Str.ofString "func") = some (.ref a) → m (Str.ofString "caller") = some v →
    D prog w s'.heap d xs → g.get? d = none → s.heap.objs.size ≤ d → d ≠ L → xs.length ≤ 5 → IsKey g k a → Rp.rep g v x → atKey xs k = some (a₀, v₀) → (∃ z, Rp.rep s'.heap v₀ z) →
    (∀ s'' v', St Z g s s'' → (∀ b o, b ≠ d → b ≠ Z.P → s'.heap.get? b = some o → s''.heap.get? b = some o) → D prog w s''.heap d (storedH xs k a v') →
      (∀ z, Rp.rep s'.heap v₀ z → Rp.rep s''.heap v' (f z x)) → (∀ p, v' = .ref p → s.heap.objs.size ≤ p) → Q .next s'') →
    wpAny (model prog w) A' (exec innerIf (mkEnv dAdd L Z.fAdd addS (.ref Z.c))) Q E s'

/-- the second loop and the return -/
def tail2 : List Stmt := (bodyOf dAdd).drop 2

theorem add_loop2 {α : Type} {Rp : Rep α} {f : α → α → α} {d d2 L : Addr} {c1 c2 : List (Int × α)} {ts ss : List Ent} {m : Str → Option Value} {n : Nat} {s' : Shared} (Rm' : Room A (n + 1)) (S' : St Z g s s')
    (hS2 : (d2 == sysModules) = false) (hD2 : D prog w g d2 ss) (hE2 : Ents (Rp.rep g) ss c2) (hR2 : InRange ss) (hdS : (d == sysModules) = false) (hns : s'.heap.Ns L m) (gL : g.get? L = none) (hL : s.heap.objs.size ≤ L)
    (hm : m (Str.ofString "new_callers") = some (.ref d)) (hm2 : m (Str.ofString "source") = some (.ref d2)) (hd : D prog w s'.heap d ts) (gd : g.get? d = none) (hds : s.heap.objs.size ≤ d) (hdL : d ≠ L)
    (hE1 : Ents (Rp.rep g) ts c1) (hR1 : InRange ts) (hV : ∀ y ∈ ts, Vis g s.heap.objs.size y) (hin : InnerOk prog w Z g s (n + 1) Rp f) :
    wpAny (model prog w) A (execs tail2 (mkEnv dAdd L Z.fAdd addS (.ref Z.c))) (fun fl s'' => Gives Z g s (fun g' v => ∃ d, v = .ref d ∧ s.heap.objs.size ≤ d ∧ CntG Rp prog w g' d (c2.foldl (addG f) c1)) (.ok (.ret (match fl with | .ret v => v | _ => .none))) s'')
      (fun _ _ => False) s' := by
  have hu : A.units + 1 < cLine := by have := Rm'.unit; omega
  obtain ⟨es, ep, hraw, hes, hget⟩ := hD2.rawAt
  refine wpAny_execs_cons (wpAny_For (wpAny_Call_method0_late rfl rfl (ldL hns hm2 ?_)))
  refine ⟨"dict", "dict.items", F.plainAttrs_dict, F.slot_dict_items, F.type_dict_items, (hD2.ext S'.sub).typeIs, (hD2.ext S'.sub).noDict, ?_⟩
  refine raw_items hS2 (hraw.ext S'.sub) ?_
  refine raw_iter_items (d := d2) ⟨_, Heap.get?_push_size _ rfl, rfl, rfl⟩ ((hraw.ext S'.sub).push _) ?_
  dsimp only
  have S₄ := (S'.push (tk := s'.toks) { cls := .type "dict_items", data := .fields #[.ref d2] })
  have hns₄ := hns.push { cls := .type "dict_items", data := .fields #[.ref d2] }
  have hd₄ := hd.ext (Ext.push s'.heap { cls := .type "dict_items", data := .fields #[.ref d2] })
  have hE₄ := (hE1.mono (R' := Rp.rep s'.heap) fun y _ x h => Rp.kept h (SeqKept.ext S'.sub)).mono (R' := Rp.rep (s'.heap.push { cls := .type "dict_items", data := .fields #[.ref d2] })) fun y _ x h => Rp.kept h (SeqKept.ext (Ext.push _ _))
  generalize s'.heap.push { cls := .type "dict_items", data := .fields #[.ref d2] } = h₄ at *
  have S₅ := S₄.push (tk := s'.toks) { cls := .type "dict_itemiterator", data := .fields #[.none, .bool false, .ref d2, .int 0 0, .int es.size 0, .int ep 0, .none, .none] }
  have hit₅ : IsItemIter (h₄.push { cls := .type "dict_itemiterator", data := .fields #[.none, .bool false, .ref d2, .int 0 0, .int es.size 0, .int ep 0, .none, .none] }) h₄.objs.size d2 0 es.size ep .none .none := Heap.get?_push_size _ rfl
  have hns₅ := hns₄.push { cls := .type "dict_itemiterator", data := .fields #[.none, .bool false, .ref d2, .int 0 0, .int es.size 0, .int ep 0, .none, .none] }
  have hd₅ := hd₄.ext (Ext.push h₄ { cls := .type "dict_itemiterator", data := .fields #[.none, .bool false, .ref d2, .int 0 0, .int es.size 0, .int ep 0, .none, .none] })
  have hE₅ := hE₄.mono (R' := Rp.rep (h₄.push { cls := .type "dict_itemiterator", data := .fields #[.none, .bool false, .ref d2, .int 0 0, .int es.size 0, .int ep 0, .none, .none] })) fun y _ x h => Rp.kept h (SeqKept.ext (Ext.push _ _))
  have git : g.get? h₄.objs.size = none := fresh_none S₄ (Nat.le_refl _)
  have hitn : s.heap.objs.size ≤ h₄.objs.size := S₄.size
  have hLi : L ≠ h₄.objs.size := Nat.ne_of_lt hns₄.lt
  have hdi : d ≠ h₄.objs.size := Nat.ne_of_lt hd₄.lt
  have hPi : h₄.objs.size ≠ Z.P := Nat.ne_of_gt (Nat.lt_of_lt_of_le S'.tab₀.2 hitn)
  dsimp only at S₅
  generalize h₄.objs.size = it at *
  generalize h₄.push { cls := .type "dict_itemiterator", data := .fields #[.none, .bool false, .ref d2, .int 0 0, .int es.size 0, .int ep 0, .none, .none] } = h₅ at *
  refine codeAny_forLoop_any (fun k s' => ∃ i m ok ov xs, k = ss.length - i ∧ i ≤ ss.length ∧ St Z g s s' ∧ s'.heap.Ns L m ∧ m (Str.ofString "new_callers") = some (.ref d) ∧
    IsItemIter s'.heap it d2 i es.size ep ok ov ∧ D prog w s'.heap d xs ∧ Ents (Rp.rep s'.heap) xs ((c2.take i).foldl (addG f) c1) ∧ InRange xs ∧ ∀ y ∈ xs, Vis g s.heap.objs.size y) ?_ ss.length
    ⟨0, _, _, _, ts, rfl, Nat.zero_le _, S₅, hns₅, hm, hit₅, hd₅, hE₅, hR1, hV⟩
  clear S' hns hm hm2 hd hE1 hE₄ hE₅ hd₅ hns₅ hit₅ S₅ hd₄ hns₄ S₄
  rintro k s' ⟨i, m, ok, ov, xs, rfl, hi, S', hns', hm, hit, hd', hE, hR, hV⟩
  by_cases hlt : i < ss.length
  · have hx := List.getElem?_eq_getElem hlt
    refine raw_next_item hit (hraw.ext S'.sub) (hget i _ hx) fun h₆ hit₆ htup₆ hsz₆ hk₆ => ?_
    dsimp only
    have S₆ := S'.but (tk := s'.toks) it git hitn hk₆ (by rw [hsz₆]; exact Nat.le_succ_of_le S'.size)
    have hns₆ := hns'.extBut hk₆ hLi
    have sk₆ : SeqKept s'.heap h₆ := SeqKept.but (noSeq_of_fields hit rfl) hk₆
    have hd₆ := hd'.kept (hk₆ _ · hdi) sk₆
    refine pair_bound Rm'.hd S₆ hns₆ gL hL git hitn hLi hit₆ htup₆ fun s₇ S₇ hns₇ hit₇ hk₇ => ?_
    have sk₇ : SeqKept h₆ s₇.heap := SeqKept.but2 (noSeq_of_ns hns₆) (noSeq_of_fields hit₆ rfl) hk₇
    have hd₇ : D prog w s₇.heap d xs := hd₆.kept (hk₇ _ · hdL hdi) sk₇
    have hE₇ := hE.mono (R' := Rp.rep s₇.heap) fun y _ x h => Rp.kept h (sk₆.trans sk₇)
    have hkey : IsKey g ss[i].1 ss[i].2.1 := hD2.keys _ (List.getElem_mem hlt)
    obtain ⟨x, hcx, hrx⟩ := hE2.get hx
    have hfold : (c2.take (i + 1)).foldl (addG f) c1 = addG f ((c2.take i).foldl (addG f) c1) (ss[i].1, x) := by
      rw [List.take_add_one, List.foldl_append, hcx]
      rfl
    have hkv : g.get? ss[i].2.1 ≠ none ∨ s.heap.objs.size ≤ ss[i].2.1 := by
      obtain ⟨o, _, _, _, _, ho, _⟩ := hkey
      exact .inl (by rw [ho]; simp)
    have hshort := keys_short hd₇ hR
    -- if func in new_callers
    refine wpAny_execs_cons (wpAny_If (wpAny_isTrue_Compare1 (ldL hns₇ rfl (ldL hns₇ (v := .ref d) ?_ ?_))))
    · exact hm
    refine wpAny_in_heap (kk_room hu) (kk_is.mpr (hkey.ext S₇.sub)) hdS hd₇ (wpAny_truthy_bool ?_)
    cases hak : atKey xs ss[i].1 with
    | some q =>
      obtain ⟨a₀, v₀⟩ := q
      rw [show (some (a₀, v₀)).isSome = true from rfl, if_pos rfl]
      have hz : ∃ z, Rp.rep s₇.heap v₀ z := by
        unfold atKey at hak
        cases hfd : xs.find? (fun y => decide (y.1 = ss[i].1)) with
        | none => rw [hfd] at hak; cases hak
        | some y =>
          rw [hfd] at hak
          have hm' := List.mem_of_find?_eq_some hfd
          obtain ⟨j, hj⟩ := List.mem_iff_getElem?.mp hm'
          obtain ⟨z, _, hz⟩ := hE₇.get hj
          have : y.2 = (a₀, v₀) := Option.some.inj hak
          rw [this] at hz
          exact ⟨z, hz⟩
      refine wpAny_execs_cons (hin A L d ss[i].2.1 a₀ _ _ xs ss[i].1 v₀ ss[i].2.2 x _ _ Rm' (S₇.tok) hns₇ gL hL hm rfl rfl hd₇ gd hds hdL hshort hkey hrx hak hz fun s₈ v' S₈ hk₈ hd₈ hrep hvn => ?_)
      have sk₈ : SeqKept s₇.heap s₈.heap := SeqKept.but2 (noSeq_dict hd₇) (noSeq_tab S₇.tab) hk₈
      have hns₈ := hns₇.at' fun o e => hk₈ L o (Ne.symm hdL) (Nat.ne_of_gt (Nat.lt_of_lt_of_le S'.tab₀.2 hL)) e
      refine wpAny_execs_nil (wpAny_execs_nil ⟨ss.length - (i + 1), by omega, i + 1, _, .ref ss[i].2.1, ss[i].2.2, _, rfl, hlt, S₈, hns₈, hm, ?_, hd₈, ?_, stored_inRange hR (hR2 _ (List.getElem_mem hlt)), stored_vis hV hkv fun p hp => .inr (hvn p hp)⟩)
      · exact hk₈ _ _ (Ne.symm hdi) hPi hit₇
      · rw [hfold]
        exact hE₇.stored (R' := Rp.rep s₈.heap) (fun v x h => Rp.kept h sk₈) hd₇.nodup hak hrep
    | none =>
      rw [show (none : Option (Addr × Value)).isSome = false from rfl, if_neg Bool.false_ne_true]
      refine wpAny_execs_cons (wpAny_Assign_Subscript (ldL hns₇ rfl (ldL hns₇ (v := .ref d) ?_ (ldL hns₇ rfl ?_))))
      · exact hm
      refine wpAny_setItem_heap (kk_room hu) (kk_is.mpr (hkey.ext S₇.sub)) hd₇ (fun h₈ hd₈ hs₈ => ?_) (by rw [sizeLine_eq]; omega)
      have sk₈ : SeqKept s₇.heap h₈ := SeqKept.but (noSeq_dict hd₇) hs₈.extBut
      refine wpAny_execs_nil (wpAny_execs_nil ⟨ss.length - (i + 1), by omega, i + 1, _, .ref ss[i].2.1, ss[i].2.2, _, rfl, hlt, S₇.same gd hds hs₈, hns₇.sameBut hs₈ (Ne.symm hdL), hm, hs₈.extBut _ _ (Ne.symm hdi) hit₇, hd₈, ?_, stored_inRange hR (hR2 _ (List.getElem_mem hlt)), stored_vis hV hkv (fun p hp => .inl (Rp.vis hrx p hp))⟩)
      rw [hfold]
      exact (hE₇.mono (R' := Rp.rep h₈) fun y _ x h => Rp.kept h sk₈).pushed hak (Rp.kept hrx (SeqKept.ext S₇.sub |>.trans sk₈))
  · have hin' : i = ss.length := by omega
    refine raw_next_item_end Rm'.hd hit (hraw.ext S'.sub) (by rw [hes, hin']; exact Nat.le_refl _) fun h₆ he => ?_
    have hns₆ := hns'.extBut he hLi
    have S₆ := S'.but (tk := s'.toks) it git hitn he (Nat.le_trans hL (Nat.le_of_lt hns₆.lt))
    have sk₆ : SeqKept s'.heap h₆ := SeqKept.but (noSeq_of_fields hit rfl) he
    have hd₆ := hd'.kept (he _ · hdi) sk₆
    refine wpAny_execs_nil (wpAny_execs_cons (wpAny_Return_some (ldL hns₆ hm ?_)))
    refine ⟨_, _, rfl, Back.of S₆ [] (fun _ h => nomatch h) ⟨d, rfl, hds, hdS, xs, hd₆.grown hds (fun h => nomatch h) (fun y hy => (hV y hy).1) (fun _ h => nomatch h), ?_, hR⟩⟩
    rw [hin', hE2.length, List.take_length] at hE
    exact hE.mono fun y hy x h => Rp.grown (Rp.kept h sk₆) (hV y hy).2

theorem add_spec {α : Type} {Rp : Rep α} {f : α → α → α} {d1 d2 : Addr} {c1 c2 : List (Int × α)} {n : Nat} (Rm : Room A (n + 2)) (S : St Z g s s) (W : WF Z g) (h1 : CntG Rp prog w g d1 c1) (h2 : CntG Rp prog w g d2 c2)
    (hsz : sysModules < s.heap.objs.size) (hin : InnerOk prog w Z g s (n + 1) Rp f) :
    codeAny (model prog w) A (.call (.ref Z.fAdd) ⟨[.ref d1, .ref d2], []⟩)
      (Gives Z g s fun g' v => ∃ d, v = .ref d ∧ s.heap.objs.size ≤ d ∧ CntG Rp prog w g' d (c2.foldl (addG f) c1)) s := by
  obtain ⟨hS1, ts, hD1, hE1, hR1⟩ := h1
  obtain ⟨hS2, ss, hD2, hE2, hR2⟩ := h2
  refine call_fn (binds := [(Str.ofString "target", .ref d1), (Str.ofString "source", .ref d2)]) (n := n + 1) Rm S W W.nAdd (fun nm dc pm an ct => rfl) (by decide +kernel) (locs rfl) (fun L h₁ hL hns S₁ => ?_) rfl rfl rfl
  have gL : g.get? L = none := fresh_none S hL
  generalize hA : A.deeper (mkEnv dAdd L Z.fAdd (Str.ofString "add_callers") (.ref Z.c)) = A'
  have Rm' : Room A' (n + 1) := hA ▸ Rm.deeper _
  generalize s.toks + [(Str.ofString "target", Value.ref d1), (Str.ofString "source", Value.ref d2)].length = tk at *
  -- new_callers = {}
  refine wpAny_execs_cons (wpAny_Assign_Name (wpAny_Dict_empty ?_))
  have S₂ := S₁.push (tk := tk) { cls := .type "dict", data := .dict #[] }
  have hd₀ : D prog w (h₁.push { cls := .type "dict", data := .dict #[] }) h₁.objs.size [] := D.new h₁
  have hns₂ := hns.push { cls := .type "dict", data := .dict #[] }
  have hdL : h₁.objs.size ≠ L := Nat.ne_of_gt hns.lt
  have hds : s.heap.objs.size ≤ h₁.objs.size := S₁.size
  have gd : g.get? h₁.objs.size = none := fresh_none S₁ (Nat.le_refl _)
  generalize hdd : h₁.objs.size = d at *
  generalize h₁.push { cls := .type "dict", data := .dict #[] } = h₂ at *
  refine stL S₂ hns₂ gL hL (fun s₃ hns₃ hs₃ S₃ => ?_)
  have hd₃ := hd₀.but hdL (noSeq_of_ns hns₂) hs₃.extBut
  have hdS : (d == sysModules) = false := beq_eq_false_iff_ne.mpr (Nat.ne_of_gt (Nat.lt_of_lt_of_le hsz hds))
  have hu : A'.units + 1 < cLine := by have := Rm'.unit; omega
  -- the first loop
  obtain ⟨es, ep, hraw, hes, hget⟩ := hD1.rawAt
  refine wpAny_execs_cons (wpAny_For (wpAny_Call_method0_late rfl rfl (ldL hns₃ rfl ?_)))
  refine ⟨"dict", "dict.items", F.plainAttrs_dict, F.slot_dict_items, F.type_dict_items, (hD1.ext S₃.sub).typeIs, (hD1.ext S₃.sub).noDict, ?_⟩
  refine raw_items hS1 (hraw.ext S₃.sub) ?_
  refine raw_iter_items (d := d1) ⟨_, Heap.get?_push_size _ rfl, rfl, rfl⟩ ((hraw.ext S₃.sub).push _) ?_
  dsimp only
  have S₄ := (S₃.push (tk := s₃.toks) { cls := .type "dict_items", data := .fields #[.ref d1] })
  have hns₄ := hns₃.push { cls := .type "dict_items", data := .fields #[.ref d1] }
  have hd₄ := hd₃.ext (Ext.push s₃.heap { cls := .type "dict_items", data := .fields #[.ref d1] })
  generalize s₃.heap.push { cls := .type "dict_items", data := .fields #[.ref d1] } = h₄ at *
  have S₅ := S₄.push (tk := s₃.toks) { cls := .type "dict_itemiterator", data := .fields #[.none, .bool false, .ref d1, .int 0 0, .int es.size 0, .int ep 0, .none, .none] }
  have hit₅ : IsItemIter (h₄.push { cls := .type "dict_itemiterator", data := .fields #[.none, .bool false, .ref d1, .int 0 0, .int es.size 0, .int ep 0, .none, .none] }) h₄.objs.size d1 0 es.size ep .none .none := Heap.get?_push_size _ rfl
  have hns₅ := hns₄.push { cls := .type "dict_itemiterator", data := .fields #[.none, .bool false, .ref d1, .int 0 0, .int es.size 0, .int ep 0, .none, .none] }
  have hd₅ := hd₄.ext (Ext.push h₄ { cls := .type "dict_itemiterator", data := .fields #[.none, .bool false, .ref d1, .int 0 0, .int es.size 0, .int ep 0, .none, .none] })
  have git : g.get? h₄.objs.size = none := fresh_none S₄ (Nat.le_refl _)
  have hitn : s.heap.objs.size ≤ h₄.objs.size := S₄.size
  have hLi : L ≠ h₄.objs.size := Nat.ne_of_lt hns₄.lt
  have hdi : d ≠ h₄.objs.size := Nat.ne_of_lt hd₄.lt
  dsimp only at S₅
  generalize h₄.objs.size = it at *
  generalize h₄.push { cls := .type "dict_itemiterator", data := .fields #[.none, .bool false, .ref d1, .int 0 0, .int es.size 0, .int ep 0, .none, .none] } = h₅ at *
  refine codeAny_forLoop_any (fun k s' => ∃ i m ok ov, k = ts.length - i ∧ i ≤ ts.length ∧ St Z g s s' ∧ s'.heap.Ns L m ∧ m (Str.ofString "new_callers") = some (.ref d) ∧ m (Str.ofString "source") = some (.ref d2) ∧
    IsItemIter s'.heap it d1 i es.size ep ok ov ∧ D prog w s'.heap d (ts.take i)) ?_ ts.length
    ⟨0, _, _, _, rfl, Nat.zero_le _, S₅, hns₅, rfl, rfl, hit₅, hd₅⟩
  rintro k s' ⟨i, m, ok, ov, rfl, hi, S', hns', hm, hm2, hit, hd'⟩
  by_cases hlt : i < ts.length
  · have hx := List.getElem?_eq_getElem hlt
    refine raw_next_item hit (hraw.ext S'.sub) (hget i _ hx) fun h₆ hit₆ htup₆ hsz₆ hk₆ => ?_
    dsimp only
    have S₆ := S'.but (tk := s'.toks) it git hitn hk₆ (by rw [hsz₆]; exact Nat.le_succ_of_le S'.size)
    have hns₆ := hns'.extBut hk₆ hLi
    have hd₆ := hd'.but hdi (noSeq_of_fields hit rfl) hk₆
    refine pair_bound Rm'.hd S₆ hns₆ gL hL git hitn hLi hit₆ htup₆ fun s₇ S₇ hns₇ hit₇ hk₇ => ?_
    have hd₇ : D prog w s₇.heap d (ts.take i) := by
      exact hd₆.kept (fun o e => hk₇ _ _ hdL hdi e) (SeqKept.but2 (noSeq_of_ns hns₆) (noSeq_of_fields hit₆ rfl) hk₇)
    -- new_callers[func] = caller
    refine wpAny_execs_cons (wpAny_Assign_Subscript (ldL hns₇ rfl (ldL hns₇ (v := .ref d) ?_ (ldL hns₇ rfl ?_))))
    · exact hm
    have hkey := hD1.keys _ (List.getElem_mem hlt)
    refine wpAny_setItem_heap (kk_room hu) (kk_is.mpr (hkey.ext S₇.sub)) hd₇ (fun h₈ hd₈ hs₈ => ?_) ?_
    · refine wpAny_execs_nil ⟨ts.length - (i + 1), by omega, i + 1, _, _, _, rfl, hlt, S₇.same gd hds hs₈, hns₇.sameBut hs₈ (Ne.symm hdL), hm, hm2, hs₈.extBut _ _ (Ne.symm hdi) hit₇, ?_⟩
      rw [storedH_new] at hd₈
      · rw [List.take_succ_eq_append_getElem hlt]; exact hd₈
      · refine atKey_none_of_not_mem fun hm' => ?_
        obtain ⟨x, hx1, hx2⟩ := List.mem_map.mp hm'
        obtain ⟨j, hj⟩ := List.mem_iff_getElem?.mp hx1
        rw [List.getElem?_take] at hj
        split at hj
        · rename_i hji
          have := idxH_unique hD1.nodup (k := ts[i].1) (p := x.2) (q := ts[i].2) (by rw [hj, ← hx2]) hx
          omega
        · cases hj
    · have := keys_short hD1 hR1
      rw [List.length_take, sizeLine_eq]; omega
  · have hin' : i = ts.length := by omega
    refine raw_next_item_end Rm'.hd hit (hraw.ext S'.sub) (by rw [hes, hin']; exact Nat.le_refl _) fun h₆ he => ?_
    have hns₆ := hns'.extBut he hLi
    have S₆ := S'.but (tk := s'.toks) it git hitn he (Nat.le_trans hL (Nat.le_of_lt hns₆.lt))
    have hd₆ := hd'.but hdi (noSeq_of_fields hit rfl) he
    rw [hin', List.take_length] at hd₆
    refine wpAny_execs_nil ?_
    dsimp only
    refine add_loop2 Rm' S₆ hS2 hD2 hE2 hR2 hdS hns₆ gL hL hm hm2 hd₆ gd hds hdL hE1 hR1 (fun y hy => ⟨?_, fun p hp => ?_⟩) hin
    · obtain ⟨o, _, _, _, _, ho, _⟩ := hD1.keys y hy
      exact .inl (by rw [ho]; simp)
    · obtain ⟨j, hj⟩ := List.mem_iff_getElem?.mp hy
      obtain ⟨x, _, hx⟩ := hE1.get hj
      exact .inl (Rp.vis hx p hp)
end
end Mine
/-! M14 -/
namespace Mine
open PySem PySem.W PyProof.Rows PySem.Calls
set_option maxRecDepth 100000

section
variable {prog : Program} {w : World} {A : Around} {E : Value → Shared → Prop} {s : Shared} {Z : Zone} {g : Heap}

theorem isinst_int {n : Int} {u : Tok} {Q : Value → Shared → Prop} (h : Q (.bool false) { s with toks := s.toks + 1 }) :
    wpAny (model prog w) A (call (.builtin "isinstance") [.int n u, .type "tuple"]) Q E s :=
  call_isinstance (isinstance_false_int (T := "tuple") (by decide) (by kernel_rfl) (by rw [isSubtype_type]; kernel_rfl)) h
theorem isinst_tuple {a : Addr} {Q : Value → Shared → Prop} (hT : s.TypeIs (.ref a) "tuple") (h : Q (.bool true) s) :
    wpAny (model prog w) A (call (.builtin "isinstance") [.ref a, .type "tuple"]) Q E s :=
  call_isinstance (isinstance_true (T := "tuple") (Tx := "tuple") (by kernel_rfl) isSubtype_tuple_tuple) ⟨hT, h⟩

theorem inner_ints (W : WF Z g) {n : Nat} : InnerOk prog w Z g s n repI (fun a b => a + b) := by
  intro A' L d a a₀ s' m xs k v₀ v x Q E Rm S hns gL hL hm hmf hmc hd gd hds hdL hshort hkey hrep hak hz hQ
  obtain ⟨tv, rfl⟩ := hrep
  obtain ⟨z, t0, rfl⟩ := hz
  have hu : A'.units + 1 < cLine := by have := Rm.unit; omega
  refine wpAny_If (wpAny_isTrue_value (wpAny_Call_Name_kw (ldBW W S.sub (by decide) rfl ?_)))
  refine callWith_builtin rfl (evalArgs_plain (spliced_cons (ldL hns hmc (spliced_cons (ldBW W S.sub (by decide) rfl (spliced_nil ?_))))))
  refine isinst_int (wpAny_truthy_bool ?_)
  rw [if_neg Bool.false_ne_true]
  refine wpAny_execs_cons (wpAny_AugAssign_Subscript (ldL hns hm (ldL hns hmf ?_)))
  refine wpAny_getItem_heap (kk_room hu) (kk_is.mpr (hkey.ext S.sub)) hd hak (ldL hns hmc (iadd_int ?_))
  dsimp only
  refine wpAny_setItem_heap (kk_room hu) (kk_is.mpr (hkey.ext S.sub)) hd (fun h₈ hd₈ hs₈ => ?_) (by rw [sizeLine_eq]; omega)
  refine wpAny_execs_nil (hQ _ _ (S.same gd hds hs₈) (fun b o hb _ e => hs₈.extBut b o hb e) hd₈ ?_ (fun p hp => nomatch hp))
  rintro z' ⟨t', e⟩
  injection e with e1 _
  subst e1
  exact ⟨_, rfl⟩

theorem foldl_addI (c1 c2 : List (Int × Int)) (hn : (c1.map (·.1)).Nodup) : c2.foldl (addG (fun a b => a + b)) c1 = c2.foldl addI c1 := by
  have keys : ∀ (c : List (Int × Int)) (p : Int × Int), (c.map (·.1)).Nodup → ((addI c p).map (·.1)).Nodup ∧ addG (fun a b => a + b) c p = addI c p := by
    intro c p hn
    unfold addI putI addG
    by_cases h : p.1 ∈ c.map (·.1)
    · rw [if_pos h, if_pos h]
      refine ⟨?_, ?_⟩
      · have : (c.map (fun q => if q.1 = p.1 then (q.1, getI c p.1 + p.2) else q)).map (·.1) = c.map (·.1) := by
          rw [List.map_map]
          refine List.map_congr_left fun q _ => ?_
          simp only [Function.comp]
          split <;> rfl
        rw [this]; exact hn
      · refine List.map_congr_left fun q hq => ?_
        by_cases e : q.1 = p.1
        · rw [if_pos e, if_pos e]
          have : getI c p.1 = q.2 := by
            unfold getI
            have hf : c.find? (fun r => decide (r.1 = p.1)) = some q := by
              clear h
              induction c with
              | nil => cases hq
              | cons r t ih =>
                rw [List.map_cons, List.nodup_cons] at hn
                rw [List.find?_cons]
                rcases List.mem_cons.mp hq with rfl | hq
                · simp [e]
                · have : ¬ r.1 = p.1 := fun q' => hn.1 (List.mem_map.mpr ⟨q, hq, e.trans q'.symm⟩)
                  simp only [this, decide_false]
                  exact ih hn.2 hq
            rw [hf]; rfl
          rw [this]
        · rw [if_neg e, if_neg e]
    · rw [if_neg h, if_neg h]
      refine ⟨?_, ?_⟩
      · rw [List.map_append, List.nodup_append]
        refine ⟨hn, by simp, fun a ha b hb => ?_⟩
        simp at hb
        exact fun e => h (by rw [← hb, ← e]; exact ha)
      · have : getI c p.1 = 0 := by
          unfold getI
          rw [List.find?_eq_none.mpr]
          · rfl
          · intro q hq hc
            exact h (List.mem_map.mpr ⟨q, hq, by simpa using hc⟩)
        rw [this, Int.zero_add]
  induction c2 generalizing c1 with
  | nil => rfl
  | cons p r ih =>
    rw [List.foldl_cons, List.foldl_cons, (keys c1 p hn).2]
    exact ih _ (keys c1 p hn).1

/-- add_callers of two dicts of counts -/
theorem add_ints {d1 d2 : Addr} {c1 c2 : List (Int × Int)} {n : Nat} (Rm : Room A (n + 2)) (S : St Z g s s) (W : WF Z g) (h1 : Cnt prog w g d1 c1) (h2 : Cnt prog w g d2 c2) (hsz : sysModules < s.heap.objs.size) :
    codeAny (model prog w) A (.call (.ref Z.fAdd) ⟨[.ref d1, .ref d2], []⟩)
      (Gives Z g s fun g' v => ∃ d, v = .ref d ∧ s.heap.objs.size ≤ d ∧ Cnt prog w g' d (c2.foldl addI c1)) s := by
  have hn : (c1.map (·.1)).Nodup := by
    obtain ⟨_, xs, hD, _, rfl, _⟩ := h1
    rw [absI_keys]; exact hD.nodup
  refine codeAny_mono (add_spec (Rp := repI) (f := fun a b => a + b) Rm S W (cnt_iff.mp h1) (cnt_iff.mp h2) hsz (inner_ints W)) ?_
  rintro r s' ⟨v, g', rfl, B⟩
  obtain ⟨d, rfl, hd, hc⟩ := B.post
  rw [foldl_addI _ _ hn] at hc
  exact ⟨_, g', rfl, { B with post := ⟨d, rfl, hd, cnt_iff.mpr hc⟩ }⟩
end
end Mine
/-! M15 -/
namespace Mine
open PySem PySem.W PyProof.Rows PySem.Calls
set_option maxRecDepth 100000

/-! ### zip of two tuples -/
theorem tiAt {h h' : Heap} {a t i : Nat} (x : h.IsTupleIter a t i) (hs : ∀ o, h.get? a = some o → h'.get? a = some o) : h'.IsTupleIter a t i := let ⟨o, ho, r⟩ := x; ⟨o, hs o ho, r⟩
theorem tuAt {h h' : Heap} {a : Addr} {items : Array Value} (x : h.IsTuple a items) (hs : ∀ o, h.get? a = some o → h'.get? a = some o) : h'.IsTuple a items := let ⟨o, ho, r⟩ := x; ⟨o, hs o ho, r⟩

section
variable {prog : Program} {w : World} {A : Around} {E : Value → Shared → Prop} {s : Shared}

theorem nextT_item {it t : Addr} {i : Nat} {items : Array Value} {x : Value} {Q : Value → Shared → Prop} (hit : s.heap.IsTupleIter it t i) (ht : s.heap.IsTuple t items) (hx : items[i]? = some x)
    (hQ : ∀ h', h'.IsTupleIter it t (i + 1) → Heap.SameBut it s.heap h' → Q x { s with heap := h' }) : wpAny (model prog w) A (Builtin.SmallTypes.nextOf (.ref it)) Q E s := by
  obtain ⟨o, ho, hc, hd⟩ := id hit
  obtain ⟨ol, hol, _, nl, hdl⟩ := ht
  unfold Builtin.SmallTypes.nextOf
  refine wpAny_bind (wpAny_callSpecial?_slot (name := Str.ofString "__next__") hit.typeIs F.slot_tuple_iterator_next
    (wpAny_call_entry F.slot_tuple_iterator_next hit.typeIs F.entry_tuple_iterator_next ?_ (F.args_tuple_iterator_next_1 _)))
  show wpAny _ _ (field (.ref it) 0 >>= _) _ _ s
  refine wpAny_bind (wpAny_field ho hd (x := .ref t) rfl ?_)
  show wpAny _ _ (if (Value.ref t == Value.none) = true then _ else _) _ _ s
  rw [if_neg (show ¬ ((Value.ref t == Value.none) = true) from Bool.false_ne_true)]
  show wpAny _ _ (field (.ref it) 1 >>= _) _ _ s
  refine wpAny_bind (wpAny_field ho hd (x := .int i 0) rfl ?_)
  show wpAny _ _ (seqItems? (.ref t) >>= _) _ _ s
  refine wpAny_bind (wpAny_seqItems hol hdl ?_)
  simp only [Int.toNat_natCast, hx]
  refine wpAny_bind (wpAny_setField ho hd (by simp) (wpAny_pure ⟨x, rfl, wpAny_pure (hQ _ ?_ (Heap.SameBut.update ..))⟩))
  exact ⟨_, Heap.get?_update_self _ ho (Obj.isFreed_of_fields (Obj.data_mapFields hd _)), (Obj.cls_mapFields ..).trans hc, by rw [Obj.data_mapFields hd]; simp [rawInt]⟩

theorem nextT_end {it t : Addr} {i : Nat} {items : Array Value} {Q : Value → Shared → Prop} (hh : A.handled = none) (hit : s.heap.IsTupleIter it t i) (ht : s.heap.IsTuple t items) (hx : items[i]? = none)
    (hE : ∀ h' e, Heap.ExtBut it s.heap h' → (∃ o, h'.get? e = some o ∧ o.cls = .type "StopIteration") → E (.ref e) { s with heap := h' }) :
    wpAny (model prog w) A (Builtin.SmallTypes.nextOf (.ref it)) Q E s := by
  obtain ⟨o, ho, hc, hd⟩ := id hit
  obtain ⟨ol, hol, _, nl, hdl⟩ := ht
  unfold Builtin.SmallTypes.nextOf
  refine wpAny_bind (wpAny_callSpecial?_slot (name := Str.ofString "__next__") hit.typeIs F.slot_tuple_iterator_next
    (wpAny_call_entry F.slot_tuple_iterator_next hit.typeIs F.entry_tuple_iterator_next ?_ (F.args_tuple_iterator_next_1 _)))
  show wpAny _ _ (field (.ref it) 0 >>= _) _ _ s
  refine wpAny_bind (wpAny_field ho hd (x := .ref t) rfl ?_)
  show wpAny _ _ (if (Value.ref t == Value.none) = true then _ else _) _ _ s
  rw [if_neg (show ¬ ((Value.ref t == Value.none) = true) from Bool.false_ne_true)]
  show wpAny _ _ (field (.ref it) 1 >>= _) _ _ s
  refine wpAny_bind (wpAny_field ho hd (x := .int i 0) rfl ?_)
  show wpAny _ _ (seqItems? (.ref t) >>= _) _ _ s
  refine wpAny_bind (wpAny_seqItems hol hdl ?_)
  simp only [Int.toNat_natCast, hx]
  refine wpAny_bind (wpAny_rule (wpAny_bind (wpAny_setField ho hd (by simp) ?_)))
  show wpAny _ _ (newExc (.type "StopIteration") [] >>= _) _ _ _
  refine wpAny_bind ?_
  simp only [newExc, newTuple]
  refine wpAny_bind (wpAny_newObj_type ?_ (by size_fits))
  refine wpAny_bind (m := firstArgMember _ _) (wpAny_of_eq (a := Value.none) (by first | rfl | (simp only [firstArgMember]; rfl)) ?_)
  refine wpAny_newObj_type ?_ (by size_fits)
  simp only [raiseNew]
  refine wpAny_bind (wpAny_handled ?_)
  first | rw [show A.in1.handled = none from hh] | rw [hh]
  refine wpAny_bind (wpAny_pure (wpAny_throw ?_))
  exact hE _ _ (((Heap.SameBut.update ..).extBut.push _).push _) ⟨_, Heap.get?_push_size _ rfl, rfl⟩

/-- a zip of two tuples, at i -/
structure ZT (h : Heap) (z TI TO i1 i2 l1 l2 : Addr) (xs ys : Array Value) (i : Nat) (f0 : Value) : Prop where
  z : IsZip h z TI TO f0
  TI : IsPair h TI (.ref i1) (.ref i2)
  TO : ∃ a b, IsPair h TO a b
  h1 : h.IsTupleIter i1 l1 i
  h2 : h.IsTupleIter i2 l2 i
  l1 : h.IsTuple l1 xs
  l2 : h.IsTuple l2 ys

theorem zipT_item {z TI TO i1 i2 l1 l2 : Addr} {i : Nat} {xs ys : Array Value} {x y : Value} {Q : Option Value → Shared → Prop} (D : ZipApart z TI TO i1 i2 l1 l2) (H : ZT s.heap z TI TO i1 i2 l1 l2 xs ys i .none) (hx : xs[i]? = some x) (hy : ys[i]? = some y)
    (hQ : ∀ h', ZT h' z TI TO i1 i2 l1 l2 xs ys (i + 1) (rawInt s.heap.objs.size) → IsPair h' s.heap.objs.size x y → (∀ c o, c ≠ z → c ≠ TO → c ≠ i1 → c ≠ i2 → s.heap.get? c = some o → h'.get? c = some o) → Q (some (.ref s.heap.objs.size)) { s with heap := h' }) :
    wpAny (model prog w) A (pyNext (.ref z)) Q E s := by
  obtain ⟨hz, hTI, ⟨a, b, hTO⟩, h1, h2, hl1, hl2⟩ := H
  have hT : s.TypeIs (.ref z) "zip" := ⟨_, hz, rfl⟩
  unfold pyNext
  refine wpAny_bind (wpAny_attempt (wpAny_callSpecial?_slot (name := Str.ofString "__next__") hT F.slot_zip_next (wpAny_call_entry F.slot_zip_next hT F.entry_zip_next ?_ (F.args_zip_next_1 _))))
  show wpAny _ _ (field (.ref z) 2 >>= _) _ _ _
  refine wpAny_bind (wpAny_field hz rfl (x := .bool false) rfl ?_)
  show wpAny _ _ (field (.ref z) 3 >>= _) _ _ _
  refine wpAny_bind (wpAny_field hz rfl (x := .ref TI) rfl ?_)
  refine wpAny_bind (wpAny_seqItems hTI rfl ?_)
  show wpAny _ _ (Builtin.SmallTypes.ownedTupleIsFree (.ref z) >>= _) _ _ _
  refine wpAny_bind ?_
  unfold Builtin.SmallTypes.ownedTupleIsFree
  refine wpAny_bind (wpAny_field hz rfl (x := .none) rfl (wpAny_pure ?_))
  simp only [if_true]
  refine wpAny_bind (wpAny_rule ?_)
  refine wpAny_bind (wpAny_field hz rfl (x := .ref TO) rfl ?_)
  refine wpAny_bind (wpAny_setField_rec hz (by simp) fun h₁ hz₁ hs₁ => ?_)
  replace hz₁ : IsZip h₁ z TI TO .ellipsis := hz₁
  refine wpAny_bind ?_
  simp only [List.zipIdx_cons, List.zipIdx_nil, List.forIn_cons, List.forIn_nil]
  refine wpAny_bind (wpAny_bind (wpAny_onRaise ?_))
  show wpAny _ _ (Builtin.SmallTypes.nextOf (.ref i1) >>= _) _ _ _
  refine wpAny_bind (nextT_item (h1.extBut hs₁.extBut D.i1z) (hl1.extBut hs₁.extBut D.l1z) hx fun h₂ h1₂ hs₂ => wpAny_pure ?_)
  have hTO₂ : IsPair h₂ TO a b := hs₂.extBut _ _ D.TOi1 (hs₁.extBut _ _ D.TOz hTO)
  refine wpAny_bind (wpAny_seqItems hTO₂ rfl ?_)
  refine wpAny_bind (wpAny_updateSeq_pair hTO₂ fun h₃ hTO₃ hs₃ => ?_)
  replace hTO₃ : IsPair h₃ TO x b := hTO₃
  refine wpAny_bind (wpAny_letGo (wpAny_pure ?_))
  refine wpAny_bind (wpAny_bind (wpAny_onRaise ?_))
  show wpAny _ _ (Builtin.SmallTypes.nextOf (.ref i2) >>= _) _ _ _
  refine wpAny_bind (nextT_item (((h2.extBut hs₁.extBut D.i2z).extBut hs₂.extBut D.i12.symm).extBut hs₃.extBut D.TOi2.symm)
    (((hl2.extBut hs₁.extBut D.l2z).extBut hs₂.extBut D.l2i1).extBut hs₃.extBut D.l2TO) hy fun h₄ h2₄ hs₄ => wpAny_pure ?_)
  have hTO₄ : IsPair h₄ TO x b := hs₄.extBut _ _ D.TOi2 hTO₃
  refine wpAny_bind (wpAny_seqItems hTO₄ rfl ?_)
  refine wpAny_bind (wpAny_updateSeq_pair hTO₄ fun h₅ hTO₅ hs₅ => ?_)
  replace hTO₅ : IsPair h₅ TO x y := hTO₅
  refine wpAny_bind (wpAny_letGo (wpAny_pure (wpAny_pure ?_)))
  refine wpAny_bind (wpAny_seqItems hTO₅ rfl ?_)
  refine wpAny_bind (wpAny_newTuple ?_)
  have hsz : h₅.objs.size = s.heap.objs.size := by rw [hs₅.1, hs₄.1, hs₃.1, hs₂.1, hs₁.1]
  have hz₅ : IsZip h₅ z TI TO .ellipsis := hs₅.extBut _ _ D.TOz.symm (hs₄.extBut _ _ D.i2z.symm (hs₃.extBut _ _ D.TOz.symm (hs₂.extBut _ _ D.i1z.symm hz₁)))
  have hk₅ : ∀ c o, c ≠ z → c ≠ TO → c ≠ i1 → c ≠ i2 → s.heap.get? c = some o → h₅.get? c = some o := fun c o c1 c2 c3 c4 e =>
    hs₅.extBut _ _ c2 (hs₄.extBut _ _ c4 (hs₃.extBut _ _ c2 (hs₂.extBut _ _ c3 (hs₁.extBut _ _ c1 e))))
  have h1₅ : h₅.IsTupleIter i1 l1 (i + 1) := ((h1₂.extBut hs₃.extBut D.TOi1.symm).extBut hs₄.extBut D.i12).extBut hs₅.extBut D.TOi1.symm
  have h2₅ : h₅.IsTupleIter i2 l2 (i + 1) := h2₄.extBut hs₅.extBut D.TOi2.symm
  have hzlt : z < h₅.objs.size := Heap.lt_size hz₅
  show wpAny _ _ (Builtin.SmallTypes.ownedTupleHandOut (.ref z) (.ref h₅.objs.size) >>= _) _ _ _
  refine wpAny_bind ?_
  unfold Builtin.SmallTypes.ownedTupleHandOut
  have hz₆ : IsZip (h₅.push { cls := .type "tuple", data := .seq #[x, y] }) z TI TO .ellipsis := Heap.get?_push_of_some _ hz₅
  refine wpAny_bind (wpAny_setField_rec hz₆ (by simp) fun h₇ hz₇ hs₇ => ?_)
  replace hz₇ : IsZip h₇ z TI TO (rawInt h₅.objs.size) := hz₇
  refine wpAny_setField_rec hz₇ (by simp) fun h₈ hz₈ hs₈ => ?_
  replace hz₈ : IsZip h₈ z TI TO (rawInt h₅.objs.size) := hz₈
  have up : ∀ c o, c ≠ z → h₅.get? c = some o → h₈.get? c = some o := fun c o c1 e => hs₈.extBut _ _ c1 (hs₇.extBut _ _ c1 (Heap.get?_push_of_some _ e))
  have hT₈ : IsPair h₈ h₅.objs.size x y := hs₈.extBut _ _ (Nat.ne_of_gt hzlt) (hs₇.extBut _ _ (Nat.ne_of_gt hzlt) (Heap.get?_push_size _ rfl))
  rw [hsz] at hz₈ hT₈
  refine wpAny_pure ⟨_, rfl, wpAny_pure ?_⟩
  show Q (some (.ref h₅.objs.size)) _
  rw [hsz]
  have hk : ∀ c o, c ≠ z → c ≠ TO → c ≠ i1 → c ≠ i2 → s.heap.get? c = some o → h₈.get? c = some o := fun c o c1 c2 c3 c4 e => up c o c1 (hk₅ c o c1 c2 c3 c4 e)
  exact hQ h₈ ⟨hz₈, hk _ _ D.TIz D.TITO D.TIi1 D.TIi2 hTI, ⟨_, _, up _ _ D.TOz hTO₅⟩, tiAt h1₅ fun o e => up _ o D.i1z e, tiAt h2₅ fun o e => up _ o D.i2z e,
    tuAt hl1 fun o e => hk _ o D.l1z D.l1TO D.l1i1 D.l1i2 e, tuAt hl2 fun o e => hk _ o D.l2z D.l2TO D.l2i1 D.l2i2 e⟩ hT₈ hk

theorem zipT_end {z TI TO i1 i2 l1 l2 : Addr} {i : Nat} {xs ys : Array Value} {Q : Option Value → Shared → Prop} (hh : A.handled = none) (D : ZipApart z TI TO i1 i2 l1 l2) (H : ZT s.heap z TI TO i1 i2 l1 l2 xs ys i .none) (hx : xs[i]? = none)
    (hQ : ∀ h', (∀ c o, c ≠ z → c ≠ TO → c ≠ i1 → c ≠ i2 → s.heap.get? c = some o → h'.get? c = some o) → Q none { s with heap := h' }) :
    wpAny (model prog w) A (pyNext (.ref z)) Q E s := by
  obtain ⟨hz, hTI, ⟨a, b, hTO⟩, h1, h2, hl1, hl2⟩ := H
  have hT : s.TypeIs (.ref z) "zip" := ⟨_, hz, rfl⟩
  unfold pyNext
  refine wpAny_bind (wpAny_attempt (wpAny_callSpecial?_slot (name := Str.ofString "__next__") hT F.slot_zip_next (wpAny_call_entry F.slot_zip_next hT F.entry_zip_next ?_ (F.args_zip_next_1 _))))
  show wpAny _ _ (field (.ref z) 2 >>= _) _ _ _
  refine wpAny_bind (wpAny_field hz rfl (x := .bool false) rfl ?_)
  show wpAny _ _ (field (.ref z) 3 >>= _) _ _ _
  refine wpAny_bind (wpAny_field hz rfl (x := .ref TI) rfl ?_)
  refine wpAny_bind (wpAny_seqItems hTI rfl ?_)
  show wpAny _ _ (Builtin.SmallTypes.ownedTupleIsFree (.ref z) >>= _) _ _ _
  refine wpAny_bind ?_
  unfold Builtin.SmallTypes.ownedTupleIsFree
  refine wpAny_bind (wpAny_field hz rfl (x := .none) rfl (wpAny_pure ?_))
  simp only [if_true]
  refine wpAny_bind (wpAny_rule ?_)
  refine wpAny_bind (wpAny_field hz rfl (x := .ref TO) rfl ?_)
  refine wpAny_bind (wpAny_setField_rec hz (by simp) fun h₁ hz₁ hs₁ => ?_)
  replace hz₁ : IsZip h₁ z TI TO .ellipsis := hz₁
  refine wpAny_bind ?_
  simp only [List.zipIdx_cons, List.zipIdx_nil, List.forIn_cons, List.forIn_nil]
  refine wpAny_bind (wpAny_bind (wpAny_onRaise ?_))
  show wpAny _ _ (Builtin.SmallTypes.nextOf (.ref i1) >>= _) _ _ _
  refine wpAny_bind (nextT_end hh (h1.extBut hs₁.extBut D.i1z) (hl1.extBut hs₁.extBut D.l1z) hx fun h₂ e hs₂ he => ?_)
  obtain ⟨oe, hoe, hce⟩ := he
  have hz₂ : IsZip h₂ z TI TO .ellipsis := hs₂ _ _ D.i1z.symm hz₁
  have hez : e ≠ z := fun x => by subst x; rw [hz₂] at hoe; cases hoe; simp at hce
  refine wpAny_setField_rec hz₂ (by simp) fun h₃ _ hs₃ => ?_
  refine wpAny_bind (wpAny_isInstance (T := "StopIteration") (b := true) ⟨oe, hs₃.extBut _ _ hez hoe, hce⟩ isSubtype_stop ?_)
  exact wpAny_pure (hQ _ fun c o c1 _ c3 _ x => hs₃.extBut _ _ c1 (hs₂ _ _ c3 (hs₁.extBut _ _ c1 x)))

theorem WalksU.zipT (hh : A.handled = none) {z TI TO i1 i2 l1 l2 : Addr} (D : ZipApart z TI TO i1 i2 l1 l2) {xs ys : Array Value} (hs : xs.size = ys.size) :
    WalksU prog w A z [z, TI, TO, i1, i2, l1, l2] [z, TO, i1, i2] xs.size (fun i vals => ∃ x y, xs[i]? = some x ∧ ys[i]? = some y ∧ vals = #[x, y])
      (fun i h => ZT h z TI TO i1 i2 l1 l2 xs ys i .none)
      (fun i T h => ZT h z TI TO i1 i2 l1 l2 xs ys (i + 1) (rawInt T) ∧ T ≠ z ∧ T ≠ TO ∧ T ≠ i1 ∧ T ≠ i2) where
  sub := fun c hc => by simp at hc ⊢; rcases hc with rfl | rfl | rfl | rfl <;> simp
  frame := fun i h h' H hk => by
    obtain ⟨hz, hTI, ⟨a, b, hTO⟩, h1, h2, hl1, hl2⟩ := H
    exact ⟨hk z (by simp) _ hz, hk TI (by simp) _ hTI, ⟨a, b, hk TO (by simp) _ hTO⟩, tiAt h1 fun o e => hk i1 (by simp) o e, tiAt h2 fun o e => hk i2 (by simp) o e, tuAt hl1 fun o e => hk l1 (by simp) o e, tuAt hl2 fun o e => hk l2 (by simp) o e⟩
  item := fun i s Q E hi H hQ => by
    refine zipT_item D H (Array.getElem?_eq_getElem hi) (Array.getElem?_eq_getElem (hs ▸ hi)) fun h' H' hT hk => ?_
    obtain ⟨hz, hTI, ⟨a, b, hTO⟩, ⟨_, h1, _⟩, ⟨_, h2, _⟩, hl1, hl2⟩ := H
    have lt : ∀ {c o}, s.heap.get? c = some o → s.heap.objs.size ≠ c := fun e => Nat.ne_of_gt (Heap.lt_size e)
    exact hQ s.heap.objs.size #[xs[i], ys[i]] h' s.toks ⟨_, _, Array.getElem?_eq_getElem hi, Array.getElem?_eq_getElem (hs ▸ hi), rfl⟩ ⟨_, hT, rfl, _, rfl⟩ ⟨H', lt hz, lt hTO, lt h1, lt h2⟩
      fun c o hc e => hk c o (fun x => hc (by simp [x])) (fun x => hc (by simp [x])) (fun x => hc (by simp [x])) (fun x => hc (by simp [x])) e
  go := fun elts k pos i T s Q E hm hQ => by
    obtain ⟨⟨hz, hTI, ⟨a, b, hTO⟩, h1, h2, hl1, hl2⟩, _⟩ := hm
    exact wpAny_letOwnedTupleGo_zip hz fun h' hz' hs' => hQ h' ⟨hz', hs'.extBut _ _ D.TIz hTI, ⟨a, b, hs'.extBut _ _ D.TOz hTO⟩, h1.extBut hs'.extBut D.i1z, h2.extBut hs'.extBut D.i2z, hl1.extBut hs'.extBut D.l1z, hl2.extBut hs'.extBut D.l2z⟩
      fun c o hc e => hs'.extBut _ _ (fun x => hc (by simp [x])) e
  apart := fun i T h hm hT => by
    obtain ⟨_, t1, t2, t3, t4⟩ := hm
    simp at hT
    rcases hT with rfl | rfl | rfl | rfl
    · exact t1 rfl
    · exact t2 rfl
    · exact t3 rfl
    · exact t4 rfl
  done := fun s Q E H hQ => zipT_end hh D H (Array.getElem?_eq_none (Nat.le_refl _)) fun h' hk => hQ h' s.toks fun c o hc e =>
      hk c o (fun x => hc (by simp [x])) (fun x => hc (by simp [x])) (fun x => hc (by simp [x])) (fun x => hc (by simp [x])) e
  self := fun i s Q E H hQ => wpAny_pyIter_zip H.z hQ

abbrev zt1 (h : Heap) (l1 : Addr) : Heap := h.push { cls := .type "tuple_iterator", data := .fields #[.ref l1, .int 0 0] }
abbrev zt2 (h : Heap) (l1 l2 : Addr) : Heap := (zt1 h l1).push { cls := .type "tuple_iterator", data := .fields #[.ref l2, .int 0 0] }
abbrev zt3 (h : Heap) (l1 l2 : Addr) : Heap := (zt2 h l1 l2).push { cls := .type "tuple", data := .seq #[.ref h.objs.size, .ref (zt1 h l1).objs.size] }
abbrev zt4 (h : Heap) (l1 l2 : Addr) : Heap := (zt3 h l1 l2).push { cls := .type "tuple", data := .seq #[.none, .none] }
abbrev zt5 (h : Heap) (l1 l2 : Addr) : Heap := (zt4 h l1 l2).push { cls := .type "zip", data := .fields #[.none, .bool false, .bool false, .ref (zt2 h l1 l2).objs.size, .ref (zt3 h l1 l2).objs.size] }

theorem meets_zipT (l1 l2 : Addr) (xs ys : Array Value) :
    Meets (Builtin.«zip.__new__» ⟨[.type "zip", .ref l1, .ref l2], []⟩) (fun _ R s => s.heap.IsTuple l1 xs ∧ s.heap.IsTuple l2 ys ∧
      R (.ok (.ret (.ref (zt4 s.heap l1 l2).objs.size))) { s with heap := zt5 s.heap l1 l2 }) :=
  .of_wp fun prog w A R s h => by
    obtain ⟨hp, g, d, tk, os⟩ := s; obtain ⟨hl1, hl2, h⟩ := h
    have hsub := sub_zip
    have hL1 : Heap.IsTuple (Shared.heap ⟨hp, g, d, tk, os⟩) l1 xs := hl1
    have hL2 : Heap.IsTuple (Shared.heap ⟨hp.push { cls := .type "tuple_iterator", data := .fields #[.ref l1, .int 0 0] }, g, d, tk, os⟩) l2 ys := Heap.IsTuple.push hl2 _
    wp_walk using wpAny_pyIter_tuple hL1, wpAny_pyIter_tuple hL2
    exact ⟨_, rfl, h⟩

theorem call_zipT {l1 l2 : Addr} {xs ys : Array Value} {Q : Value → Shared → Prop} (hl1 : s.heap.IsTuple l1 xs) (hl2 : s.heap.IsTuple l2 ys)
    (h : ∀ h' z TI TO i1 i2, ZipApart z TI TO i1 i2 l1 l2 → ZT h' z TI TO i1 i2 l1 l2 xs ys 0 .none → Ext s.heap h' → s.heap.objs.size ≤ z → s.heap.objs.size ≤ TO → s.heap.objs.size ≤ i1 → s.heap.objs.size ≤ i2 → s.heap.objs.size ≤ h'.objs.size → Q (.ref z) { s with heap := h' }) :
    wpAny (model prog w) A (call (.type "zip") [.ref l1, .ref l2]) Q E s := by
  have a1 : l1 < s.heap.objs.size := by obtain ⟨_, e, _⟩ := hl1; exact Heap.lt_size e
  have a2 : l2 < s.heap.objs.size := by obtain ⟨_, e, _⟩ := hl2; exact Heap.lt_size e
  refine callType_new F.called_zip (by decide) (F.typeCall_zip_2 _ _) (F.newCall_zip_2 _ _) (fun obj => F.args_object_init_3 obj _ _) F.entry_zip_new (meets_zipT l1 l2 xs ys) ⟨hl1, hl2, ?_⟩
  have z1 : (zt1 s.heap l1).objs.size = s.heap.objs.size + 1 := Heap.size_push ..
  have z2 : (zt2 s.heap l1 l2).objs.size = s.heap.objs.size + 2 := by rw [Heap.size_push, z1]
  have z3 : (zt3 s.heap l1 l2).objs.size = s.heap.objs.size + 3 := by rw [Heap.size_push, z2]
  have z4 : (zt4 s.heap l1 l2).objs.size = s.heap.objs.size + 4 := by rw [Heap.size_push, z3]
  have z5 : (zt5 s.heap l1 l2).objs.size = s.heap.objs.size + 5 := by rw [Heap.size_push, z4]
  have g5 : (zt5 s.heap l1 l2).get? (zt4 s.heap l1 l2).objs.size = some _ := Heap.get?_push_size _ rfl
  have g4 : (zt5 s.heap l1 l2).get? (zt3 s.heap l1 l2).objs.size = some _ := Heap.get?_push_of_some _ (Heap.get?_push_size _ rfl)
  have g3 : (zt5 s.heap l1 l2).get? (zt2 s.heap l1 l2).objs.size = some _ := Heap.get?_push_of_some _ (Heap.get?_push_of_some _ (Heap.get?_push_size _ rfl))
  have g2 : (zt5 s.heap l1 l2).get? (zt1 s.heap l1).objs.size = some _ := Heap.get?_push_of_some _ (Heap.get?_push_of_some _ (Heap.get?_push_of_some _ (Heap.get?_push_size _ rfl)))
  have g1 : (zt5 s.heap l1 l2).get? s.heap.objs.size = some _ := Heap.get?_push_of_some _ (Heap.get?_push_of_some _ (Heap.get?_push_of_some _ (Heap.get?_push_of_some _ (Heap.get?_push_size _ rfl))))
  show _ ∧ _
  rw [z2, z3, z4] at g5
  rw [z1, z2] at g3
  rw [z3] at g4
  rw [z1] at g2
  rw [z4]
  have hk : Ext s.heap (zt5 s.heap l1 l2) := fun c o x => Heap.get?_push_of_some _ (Heap.get?_push_of_some _ (Heap.get?_push_of_some _ (Heap.get?_push_of_some _ (Heap.get?_push_of_some _ x))))
  exact ⟨⟨_, g5, rfl⟩, h _ _ _ _ _ _ (zipApart_new a1 a2) ⟨g5, g3, ⟨_, _, g4⟩, ⟨_, g1, rfl, rfl⟩, ⟨_, g2, rfl, rfl⟩, tuAt hl1 fun o e => hk _ o e, tuAt hl2 fun o e => hk _ o e⟩ hk (Nat.le_add_right _ 4) (Nat.le_add_right _ 3) (Nat.le_refl _) (Nat.le_add_right _ 1) (by rw [z5]; exact Nat.le_add_right _ 5)⟩
end
end Mine
/-! M16 -/
namespace Mine
open PySem PySem.W PyProof.Rows PySem.Calls
set_option maxRecDepth 100000

/-- four counts -/
abbrev Four := Int × Int × Int × Int
def Is4 (h : Heap) (p : Addr) (x : Four) : Prop := ∃ a b c d, h.IsTuple p #[.int x.1 a, .int x.2.1 b, .int x.2.2.1 c, .int x.2.2.2 d]
def repF : Rep Four where
  rep := fun h v x => ∃ p, v = .ref p ∧ Is4 h p x
  kept := fun ⟨p, e, a, b, c, d, ht⟩ k => ⟨p, e, a, b, c, d, isTuple_kept ht k⟩
  grown := fun ⟨p, e, a, b, c, d, o, ho, r⟩ hv => ⟨p, e, a, b, c, d, o, grow_get ho (fun h => nomatch h) (hv p e), r⟩
  vis := fun ⟨p, e, a, b, c, d, o, ho, r⟩ q hq => by rw [e] at hq; cases hq; rw [ho]; simp
def addF (z x : Four) : Four := (x.1 + z.1, x.2.1 + z.2.1, x.2.2.1 + z.2.2.1, x.2.2.2 + z.2.2.2)

def posOfGen : Stmt → Pos
  | .If _ [.Assign _ (.Call _ [.GeneratorExp _ _ _ p] _ _) _] _ _ => p
  | _ => ⟨0, 0, 0, 0⟩
def genPos : Pos := posOfGen innerIf

theorem St.to {Z : Zone} {g : Heap} {s₀ s s₁ : Shared} (S : St Z g s₀ s) (X : Addr → Prop) (hX : ∀ b, X b → g.get? b = none ∧ s₀.heap.objs.size ≤ b)
    (hk : ∀ b o, ¬ X b → s.heap.get? b = some o → s₁.heap.get? b = some o) (hs : s₀.heap.objs.size ≤ s₁.heap.objs.size) (hos : s₁.os = s.os) (hb : AllBare s₁.gens) : St Z g s₀ s₁ where
  ext := fun b o hb e => hk b o (fun x => Nat.not_lt.mpr (hX b x).2 (Heap.lt_size e)) (S.ext b o hb e)
  size := hs
  sub := fun b o e => hk b o (fun x => by rw [(hX b x).1] at e; cases e) (S.sub b o e)
  gP := S.gP
  os := hos.trans S.os
  bare := hb
  tab₀ := S.tab₀
  tab := S.tab.at (fun o e => hk _ o (fun x => Nat.not_lt.mpr (hX _ x).2 S.tab₀.1) e) (fun o e => hk _ o (fun x => Nat.not_lt.mpr (hX _ x).2 S.tab₀.2) e)

theorem St.code {Z : Zone} {g : Heap} {s₀ s s₁ : Shared} (S : St Z g s₀ s) (hk : ∀ b o, b ≠ Z.P → s.heap.get? b = some o → s₁.heap.get? b = some o) (hs : s₀.heap.objs.size ≤ s₁.heap.objs.size) (hos : s₁.os = s.os) (hg : s₁.gens = s.gens)
    (ht : Z.Tab s₁.heap) : St Z g s₀ s₁ where
  ext := fun b o hb e => hk b o hb (S.ext b o hb e)
  size := hs
  sub := fun b o e => hk b o (fun h => by rw [h, S.gP] at e; cases e) (S.sub b o e)
  gP := S.gP
  os := hos.trans S.os
  bare := by rw [hg]; exact S.bare
  tab₀ := S.tab₀
  tab := ht

section
variable {prog : Program} {w : World} {A : Around} {E : Value → Shared → Prop} {s : Shared} {Z : Zone} {g : Heap}

theorem gen_code {s₀ : Shared} {env : Env} {qn : Str} {scope : Scope} {pos : Pos} {Q : Value → Shared → Prop} (S : St Z g s₀ s) (hcode : env.code = .ref Z.c) (hpos : Z.gp = pos)
    (hQ : ∀ c' h' tk, St Z g s₀ { s with heap := h', toks := tk } → (∀ b o, b ≠ Z.P → s.heap.get? b = some o → h'.get? b = some o) → s.heap.objs.size ≤ h'.objs.size → Q (.ref c') { s with heap := h', toks := tk }) :
    wpAny (model prog w) A (genexprCode env pos qn scope) Q E s := by
  subst hpos
  obtain ⟨more, hI, hT, hc⟩ := S.tab
  rcases hc with hc | ⟨c', hc⟩
  · refine wpAny_genexprCodeX hcode hI hT hc fun c' h' tk hk hc1 hc2 hI' _ hT' _ => ?_
    have hs : s.heap.objs.size ≤ h'.objs.size := Nat.le_of_lt (Nat.lt_of_le_of_lt hc1 hc2)
    obtain ⟨_, _, _, _, _, _, _, _, _, _, _, _, _, _, _, _, _, _, _, htr, _⟩ := hI
    refine hQ c' h' tk (S.code (fun b o hb e => hk b o hb e) (Nat.le_trans S.size hs) rfl rfl ⟨more ++ #[rawInt Z.gp.line, rawInt Z.gp.col, .ref c'], ?_, ?_, .inr ⟨c', ?_⟩⟩) (fun b o hb e => hk b o hb e) hs
    · rw [← Array.append_assoc]; exact hI'
    · rw [← Array.append_assoc]; exact hT'
    · rw [← Array.append_assoc]
      have := codeAmong_snoc (pos := Z.gp) (c := .ref c') _ htr hc
      simpa using this
  · exact wpAny_genexprCode_hit hcode hI hc (hQ c' s.heap s.toks (S.tok (tk := s.toks)) (fun b o _ e => e) (Nat.le_refl _))

theorem four_int {a b c d : Int} {t1 t2 t3 t4 : Tok} {i : Nat} {x : Value} (h : (#[Value.int a t1, .int b t2, .int c t3, .int d t4] : Array Value)[i]? = some x) : ∃ n t, x = .int n t ∧ [a, b, c, d][i]? = some n := by
  match i, h with
  | 0, h => simp at h; exact ⟨_, _, h.symm, rfl⟩
  | 1, h => simp at h; exact ⟨_, _, h.symm, rfl⟩
  | 2, h => simp at h; exact ⟨_, _, h.symm, rfl⟩
  | 3, h => simp at h; exact ⟨_, _, h.symm, rfl⟩
  | n + 4, h => simp at h

theorem four_acc {P : Nat → Value → Prop} {acc : Array Value} (h : ItemsOf P acc 4) : ∃ v0 v1 v2 v3, acc = #[v0, v1, v2, v3] ∧ P 0 v0 ∧ P 1 v1 ∧ P 2 v2 ∧ P 3 v3 := by
  obtain ⟨hs, hP⟩ := h
  obtain ⟨l⟩ := acc
  match l, hs, hP with
  | [v0, v1, v2, v3], _, hP => exact ⟨v0, v1, v2, v3, rfl, hP 0 _ rfl, hP 1 _ rfl, hP 2 _ rfl, hP 3 _ rfl⟩

theorem tuple_of_gen {s₀ : Shared} {a C : Addr} {wr : List Addr} {G : Nat} {n : Nat} {P : Nat → Value → Prop} {T : Nat → Shared → Prop} {Q : Value → Shared → Prop} (S : St Z g s₀ s)
    (hW : WalksS prog w A.in4 a (a :: C :: List.range C) (C :: wr) (GenOnlyQ G) n P T) (hgen : T 0 s) (hT : ∀ i s, T i s → s.TypeIs (.ref a) "generator") (ha : a < s.heap.objs.size) (hC : C < s.heap.objs.size)
    (hwr : ∀ b ∈ C :: wr, g.get? b = none ∧ s₀.heap.objs.size ≤ b) (hn : n ≤ sizeLine) (hsa : s₀.heap.objs.size ≤ a) (haw : a ∉ C :: wr)
    (hQ : ∀ s₆ acc D, St Z g s₀ s₆ → (∀ b o, b ∉ C :: wr → s.heap.get? b = some o → s₆.heap.get? b = some o) → ItemsOf P acc n → s₆.heap.IsTuple D acc → s₀.heap.objs.size ≤ D → Q (.ref D) s₆) :
    wpAny (model prog w) A (call (.type "tuple") [.ref a]) Q E s := by
  refine call_tuple_gen (hsz := hn) hW.in4_3 hT hgen (fun b hb => ?_) List.mem_cons_self fun s' acc hm hacc => ?_
  · rcases List.mem_cons.mp hb with rfl | hb
    · exact ha
    · rcases List.mem_cons.mp hb with rfl | hb
      · exact hC
      · exact Nat.lt_trans (List.mem_range.mp hb) hC
  · have hs : s₀.heap.objs.size ≤ s'.heap.objs.size := by
      obtain ⟨o, ho, _⟩ := hT 0 s hgen
      exact Nat.le_trans hsa (Nat.le_of_lt (Heap.lt_size (hm.heap _ _ haw ho)))
    have S' : St Z g s₀ s' := S.to (fun b => b ∈ C :: wr) hwr hm.heap hs hm.os (AllBare.moved S.bare hm.gens)
    exact hQ _ acc _ (S'.push (tk := s'.toks) _) (fun b o hb e => Heap.get?_push_of_some _ (hm.heap b o hb e)) hacc ⟨_, Heap.get?_push_size _ rfl, rfl, 0, rfl⟩ hs

theorem sub_dict {d : Addr} {k : Int} {a a₀ : Addr} {v₀ : Value} {xs : List Ent} {Q : Value → Shared → Prop} (hu : (kk prog w).room A.in1) (hk : IsKey s.heap k a) (hd : D prog w s.heap d xs) (ha : atKey xs k = some (a₀, v₀))
    (h : ∀ tk, Q v₀ { s with toks := tk }) : SubscriptOn (model prog w) A (.ref d) (.ref a) Q E s :=
  ⟨"dict", _, F.slot_dict_getitem.lookup, hd.typeIs, wpAny_getItem_heap hu (kk_is.mpr hk) hd ha (h _)⟩

theorem inner_fours (W : WF Z g) (hgp : Z.gp = genPos) {n : Nat} : InnerOk prog w Z g s n repF addF := by
  intro A' L d a a₀ s' m xs k v₀ v x Q E Rm S hns gL hL hm hmf hmc hd gd hds hdL hshort hkey hrep hak hz hQ
  obtain ⟨p, rfl, a1, a2, a3, a4, htp⟩ := hrep
  obtain ⟨z, p₀, rfl, b1, b2, b3, b4, htz⟩ := hz
  have hu : A'.units + 1 < cLine := by have := Rm.unit; omega
  have htp' : s'.heap.IsTuple p _ := isTuple_kept htp (SeqKept.ext S.sub)
  refine wpAny_If (wpAny_isTrue_value (wpAny_Call_Name_kw (ldBW W S.sub (by decide) rfl ?_)))
  refine callWith_builtin rfl (evalArgs_plain (spliced_cons (ldL hns hmc (spliced_cons (ldBW W S.sub (by decide) rfl (spliced_nil ?_))))))
  refine isinst_tuple htp'.typeIs (wpAny_truthy_bool ?_)
  rw [if_pos rfl]
  refine wpAny_execs_cons (wpAny_Assign_Subscript ?_)
  refine wpAny_Call_Name_kw (ldBW W S.sub (by decide) rfl ?_)
  refine PySem.callWith_type rfl (evalArgs_plain (spliced_cons ?_))
  refine wpAny_GeneratorExp_walksQT (cl := []) Rm.hd rfl rfl (by decide) rfl rfl rfl (by decide) rfl Rm.lim ?_ (fun _ => rfl)
  refine wpAny_Call_Name_kw (ldBW W S.sub (by decide) rfl ?_)
  refine PySem.callWith_type rfl (evalArgs_plain (spliced_cons (ldL hns hmc (spliced_cons (wpAny_Subscript_Name_late (ldL hns hm (ldL hns hmf ?_)))))))
  refine sub_dict (kk_room hu) (hkey.ext S.sub) hd hak fun tk₁ => spliced_nil ?_
  refine call_zipT htp' htz fun h₂ z' TI TO i1 i2 D hZ e₂ hz' hTO hi1 hi2 hs₂ => ?_
  have S₂ := S.grown (tk := tk₁) e₂ hs₂
  have hlim : g.NoLimit := W.lim
  refine wpAny_pyIter_zip hZ.z ⟨hlim.keeps S₂.sub, ?_⟩
  refine gen_code S₂ rfl hgp fun c' h₃ tk₃ S₃ e₃ hs₃ => ?_
  dsimp only at e₃ hs₃ S₃
  obtain ⟨bm, ob, B⟩ := W.bi
  refine wpAny_builtinsFor (B.ns.keeps S₃.sub) B.name B.ne (S₃.sub _ _ B.obj) B.cls B.dict B.data ?_
  have hsL : s'.heap.objs.size ≤ h₃.objs.size := Nat.le_trans hs₂ hs₃
  have hPz : Z.P < s'.heap.objs.size := S.tab.lt.2
  have ne : ∀ b, s'.heap.objs.size ≤ b → b ≠ Z.P := fun b h => Nat.ne_of_gt (Nat.lt_of_lt_of_le hPz h)
  have hZ₃ : ZT h₃ z' TI TO i1 i2 p p₀ #[.int x.1 a1, .int x.2.1 a2, .int x.2.2.1 a3, .int x.2.2.2 a4] #[.int z.1 b1, .int z.2.1 b2, .int z.2.2.1 b3, .int z.2.2.2 b4] 0 .none := by
    obtain ⟨hz, hTI, ⟨a, b, hTOp⟩, h1, h2, hl1, hl2⟩ := hZ
    have nt : ∀ {b : Addr} {xs : Array Value}, h₂.IsTuple b xs → b ≠ Z.P := fun ⟨o, ho, _, n, hd⟩ e => noSeq_tab S₂.tab o (e ▸ ho) _ _ hd
    exact ⟨e₃ _ _ (ne _ hz') hz, e₃ _ _ (nt ⟨_, hTI, rfl, 0, rfl⟩) hTI, ⟨a, b, e₃ _ _ (ne _ hTO) hTOp⟩, tiAt h1 fun o e => e₃ _ _ (ne _ hi1) e, tiAt h2 fun o e => e₃ _ _ (ne _ hi2) e, tuAt hl1 fun o e => e₃ _ _ (nt hl1) e, tuAt hl2 fun o e => e₃ _ _ (nt hl2) e⟩
  have hclt : cStatics < s'.heap.objs.size := let ⟨_, hn, _⟩ := hlim.keeps S.sub; hn.lt
  refine ⟨z', _, _, _, _, _, _, fun _ => true, fun i y => ∃ n m u, [x.1, x.2.1, x.2.2.1, x.2.2.2][i]? = some n ∧ [z.1, z.2.1, z.2.2.1, z.2.2.2][i]? = some m ∧ y = .int (n + m) u, rfl,
    fun A'' hA => WalksU.zipT (xs := #[.int x.1 a1, .int x.2.1 a2, .int x.2.2.1 a3, .int x.2.2.2 a4]) (ys := #[.int z.1 b1, .int z.2.1 b2, .int z.2.2.1 b3, .int z.2.2.2 b4]) hA D rfl, fun i vals hv => ?_, hZ₃, fun b hb => ?_, hlim.keeps S₃.sub, ?_, ?_, ?_⟩
  · obtain ⟨x, y, _, _, e⟩ := hv
    exact ⟨x, y, e⟩
  · have lt3 : ∀ {c o}, h₃.get? c = some o → c < h₃.objs.size := fun e => Heap.lt_size e
    obtain ⟨hz, hTI, ⟨_, _, hTO⟩, ⟨_, h1, _⟩, ⟨_, h2, _⟩, ⟨_, hl1, _⟩, ⟨_, hl2, _⟩⟩ := hZ₃
    simp only [List.mem_cons, List.not_mem_nil, or_false] at hb
    rcases hb with rfl | rfl | rfl | rfl | rfl | rfl | rfl
    · exact lt3 hz
    · exact lt3 hTI
    · exact lt3 hTO
    · exact lt3 h1
    · exact lt3 h2
    · exact lt3 hl1
    · exact lt3 hl2
  · intro hb
    simp only [List.mem_cons, List.not_mem_nil, or_false] at hb
    rcases hb with rfl | rfl | rfl | rfl
    · exact Nat.not_lt.mpr hz' hclt
    · exact Nat.not_lt.mpr hTO hclt
    · exact Nat.not_lt.mpr hi1 hclt
    · exact Nat.not_lt.mpr hi2 hclt
  · intro href _
    refine ⟨fun A'' E' i va vb s₂ m₂ hA hP hns' hma hmb hk => ?_, fun A'' E' i va vb s₂ m₂ hA hP _ hns' hma hmb hk => ?_⟩
    · simp only [List.forIn_nil]
      exact wpAny_pure ⟨rfl, s₂.heap, s₂.toks, rfl, fun _ _ e => e⟩
    · obtain ⟨u, v, hu', hv', e⟩ := hP
      obtain ⟨e1, e2⟩ : va = u ∧ vb = v := by simpa using congrArg Array.toList e
      subst e1 e2
      obtain ⟨n1, t1, rfl, hn1⟩ := four_int hu'
      obtain ⟨n2, t2, rfl, hn2⟩ := four_int hv'
      exact wpAny_BinOp (ldL hns' hma (ldL hns' hmb (add_int ⟨⟨n1, n2, _, hn1, hn2, rfl⟩, s₂.heap, s₂.toks + 1, rfl, fun _ _ e => e⟩)))
  · intro ga h₅ tk₅ gs hbare hlt hsz₅ e₅ hW hgen
    dsimp only at hgen hlt hsz₅ e₅ hW
    refine spliced_nil ?_
    have hst : s.heap.objs.size ≤ s'.heap.objs.size := S.size
    have S₅ := S₃.to (s₁ := { heap := h₅, gens := s'.gens.push gs, drawn := s'.drawn, toks := tk₅, os := s'.os }) (fun _ => False) (fun _ h => h.elim) (fun b o _ e => e₅ b o e) (by show _ ≤ h₅.objs.size; rw [hsz₅]; omega) rfl (AllBare.push S.bare hbare)
    have fr : ∀ b, s'.heap.objs.size ≤ b → g.get? b = none ∧ s.heap.objs.size ≤ b := fun b h => ⟨fresh_none S h, Nat.le_trans hst h⟩
    have hgalt : ga < h₅.objs.size := by rw [hsz₅]; exact Nat.lt_succ_self _
    have hw : ∀ b ∈ [z', TO, i1, i2], s'.heap.objs.size ≤ b := by
      intro b hb
      simp only [List.mem_cons, List.not_mem_nil, or_false] at hb
      rcases hb with rfl | rfl | rfl | rfl <;> assumption
    have hw3 : ∀ b ∈ [z', TO, i1, i2], b < h₃.objs.size := by
      obtain ⟨hz, hTI, ⟨_, _, hTOp⟩, ⟨_, h1, _⟩, ⟨_, h2, _⟩, _, _⟩ := hZ₃
      intro b hb
      simp only [List.mem_cons, List.not_mem_nil, or_false] at hb
      rcases hb with rfl | rfl | rfl | rfl
      · exact Heap.lt_size hz
      · exact Heap.lt_size hTOp
      · exact Heap.lt_size h1
      · exact Heap.lt_size h2
    refine tuple_of_gen (s₀ := s) S₅ hW hgen (fun i s h => h.1.typeIs) hgalt (Nat.lt_trans hlt hgalt) (fun b hb => ?_) (show (passing (fun _ => true) 4 0).length ≤ sizeLine by rw [sizeLine_eq]; decide) (Nat.le_trans hst (Nat.le_trans hsL (Nat.le_of_lt hlt))) (fun hm => ?_) fun s₆ acc T S₆ hk₆ hacc hT₆ hTn => ?_
    · rcases List.mem_cons.mp hb with rfl | hb
      · exact fr _ hsL
      · exact fr _ (hw b hb)
    · rcases List.mem_cons.mp hm with h | h
      · exact absurd h (Nat.ne_of_gt hlt)
      · exact absurd (hw3 _ h) (Nat.not_lt.mpr (Nat.le_of_lt hlt))
    · have hk : ∀ b o, b ≠ Z.P → s'.heap.get? b = some o → s₆.heap.get? b = some o := fun b o hb e => by
        have hlt' := Heap.lt_size e
        refine hk₆ b o (fun hm => ?_) (e₅ _ _ (e₃ _ _ hb (e₂ _ _ e)))
        rcases List.mem_cons.mp hm with h | h
        · exact absurd (Nat.lt_of_le_of_lt hsL (h ▸ hlt')) (Nat.lt_irrefl _)
        · exact absurd (Nat.lt_of_le_of_lt (hw b h) hlt') (Nat.lt_irrefl _)
      have sk : SeqKept s'.heap s₆.heap := SeqKept.but (noSeq_tab S.tab) hk
      have hns₆ := hns.at' fun o e => hk L o (Nat.ne_of_gt (Nat.lt_of_lt_of_le S.tab₀.2 hL)) e
      have hd₆ := hd.kept (hk d · (Nat.ne_of_gt (Nat.lt_of_lt_of_le S.tab₀.2 hds))) sk
      refine ldL hns₆ hm (ldL hns₆ hmf ?_)
      refine wpAny_setItem_heap (kk_room hu) (kk_is.mpr (hkey.ext S₆.sub)) hd₆ (fun h₈ hd₈ hs₈ => ?_) (by rw [sizeLine_eq]; omega)
      refine wpAny_execs_nil (hQ _ _ (S₆.same gd hds hs₈) (fun b o hb hP e => hs₈.extBut b o hb (hk b o hP e)) hd₈ (fun zz hzz => ?_) (fun p hp => by cases hp; exact hTn))
      obtain ⟨p', e, b1', b2', b3', b4', htz'⟩ := hzz
      cases e
      have ez : zz = z := by
        obtain ⟨o, ho, _, n1, hd1⟩ := htz
        obtain ⟨o', ho', _, n2, hd2⟩ := htz'
        obtain rfl := Option.some.inj (ho.symm.trans ho')
        rw [hd1] at hd2
        injection hd2 with e1 _
        have e2 := congrArg Array.toList e1
        simp only [List.cons.injEq, Value.int.injEq] at e2
        obtain ⟨⟨x1, _⟩, ⟨x2, _⟩, ⟨x3, _⟩, ⟨x4, _⟩, _⟩ := e2
        exact (Prod.ext x1 (Prod.ext x2 (Prod.ext x3 x4))).symm
      subst ez
      obtain ⟨v0, v1, v2, v3, rfl, p0, p1, p2, p3⟩ := four_acc hacc
      have get : ∀ {j : Nat} {v : Value}, j < 4 → (∃ i, (passing (fun _ => true) 4 0)[j]? = some i ∧ ∃ n m u, [x.1, x.2.1, x.2.2.1, x.2.2.2][i]? = some n ∧ [zz.1, zz.2.1, zz.2.2.1, zz.2.2.2][i]? = some m ∧ v = .int (n + m) u) →
          ∃ n m u, [x.1, x.2.1, x.2.2.1, x.2.2.2][j]? = some n ∧ [zz.1, zz.2.1, zz.2.2.1, zz.2.2.2][j]? = some m ∧ v = .int (n + m) u := by
        rintro j v hj ⟨i, hi, r⟩
        have : i = j := by
          have e : passing (fun _ => true) 4 0 = [0, 1, 2, 3] := by decide
          rw [e] at hi
          match j, hj, hi with
          | 0, _, hi => simpa using hi.symm
          | 1, _, hi => simpa using hi.symm
          | 2, _, hi => simpa using hi.symm
          | 3, _, hi => simpa using hi.symm
        exact this ▸ r
      obtain ⟨n0, m0, u0, x0, y0, rfl⟩ := get (by decide) p0
      obtain ⟨n1, m1, u1, x1, y1, rfl⟩ := get (by decide) p1
      obtain ⟨n2, m2, u2, x2, y2, rfl⟩ := get (by decide) p2
      obtain ⟨n3, m3, u3, x3, y3, rfl⟩ := get (by decide) p3
      cases x0; cases x1; cases x2; cases x3; cases y0; cases y1; cases y2; cases y3
      exact ⟨T, rfl, u0, u1, u2, u3, tuAt hT₆ fun o e => hs₈.extBut _ _ (fun e' => by
        have := noSeq_dict hd₆ o (e' ▸ e)
        obtain ⟨o', ho', _, n', hd'⟩ := hT₆
        obtain rfl := Option.some.inj (e.symm.trans ho')
        exact this _ _ hd') e⟩
end
end Mine
/-! M17 -/
namespace Mine
open PySem PySem.W PyProof.Rows PySem.Calls
set_option maxRecDepth 100000

def mkEnvC (st : Stmt) (L f : Addr) (qn : Str) (cd : Value) : Env :=
  { scope := scopeOf st, locals := L, globals := mainGlobals, cells := cellsFrom (L + 1) (scopeOf st).names [], qual := qn ++ ".<locals>.", func := some f, code := cd, frame := some L, builtins := builtinsNs }

/-- where a comprehension begins -/
structure CompStart (h₀ h : Heap) (D C : Addr) (cs : List (Str × Addr)) (cl : List (Str × Addr)) : Prop where
  ext : Ext h₀ h
  Dn : h₀.objs.size ≤ D
  Cn : h₀.objs.size ≤ C
  DC : D < C
  size : C < h.objs.size
  list : h.PlainList D #[]
  ns : h.Ns C (fun _ => none)
  cells : ∀ n c, (n, c) ∈ cs → (n, c) ∈ cl ∨ (h.IsCell c none ∧ C < c)

theorem cellsFrom_mem : ∀ (names : List (Str × NameKind)) (h : Heap) (acc cl : List (Str × Addr)) (C : Addr), C < h.objs.size → (∀ n c, (n, c) ∈ acc → (n, c) ∈ cl ∨ (h.IsCell c none ∧ C < c)) →
    ∀ n c, (n, c) ∈ cellsFrom h.objs.size names acc → (n, c) ∈ cl ∨ ((pushCells h names).IsCell c none ∧ C < c)
  | [], _, _, _, _, _, x => x
  | (name, kind) :: r, h, acc, cl, C, hC, x => by
    unfold pushCells cellsFrom
    split
    · have := cellsFrom_mem r (h.push { cls := .type "cell", data := .cell none }) ((name, h.objs.size) :: acc) cl C (by rw [Heap.size_push]; exact Nat.lt_succ_of_lt hC) fun n c hm => by
        rcases List.mem_cons.mp hm with e | hm
        · cases e; exact .inr ⟨⟨_, Heap.get?_push_size _ rfl, rfl⟩, hC⟩
        · rcases x n c hm with h1 | ⟨h1, h2⟩
          · exact .inl h1
          · exact .inr ⟨h1.keeps fun b o e => Heap.get?_push_of_some _ e, h2⟩
      rwa [Heap.size_push] at this
    · exact cellsFrom_mem r h acc cl C hC x

theorem pushCells_size : ∀ (names : List (Str × NameKind)) (h : Heap), h.objs.size ≤ (pushCells h names).objs.size
  | [], _ => Nat.le_refl _
  | (_, kind) :: r, h => by
    unfold pushCells
    split
    · exact Nat.le_trans (by rw [Heap.size_push]; exact Nat.le_succ _) (pushCells_size r _)
    · exact pushCells_size r h

section
variable {prog : Program} {w : World} {A : Around} {E : Value → Shared → Prop} {s : Shared} {env : Env}

theorem newEnv_comp {scope : Scope} {globals : Addr} {closure : List (Str × Addr)} {qual : Str} {func : Option Addr} {code : Value} {outer : Env} {builtins : Addr} {Q : Env → Shared → Prop}
    (hQ : Q { scope, locals := s.heap.objs.size, globals, cells := cellsFrom (s.heap.objs.size + 1) scope.names closure, qual, func, code := outer.code, frame := outer.frame, builtins := outer.builtins }
      { s with heap := pushCells (s.heap.push { cls := .type "dict", data := .dict #[] }) scope.names }) :
    wpAny (model prog w) A (newFunctionEnv scope globals closure [] qual func code (some outer) builtins) Q E s := by
  simp only [newFunctionEnv, Option.isSome_some, if_true]
  refine wpAny_bind (wpAny_alloc ?_)
  refine wpAny_bind (wpAny_layCells _ (fun name kind cells => by cases hkc : kind == NameKind.cell <;> simp) _ _ _ _ ?_)
  rw [show ({ s with heap := s.heap.push { cls := .type "dict", data := .dict #[] } } : Shared).heap.objs.size = s.heap.objs.size + 1 from Heap.size_push ..]
  refine wpAny_bind ?_
  rw [List.forIn_nil]
  exact wpAny_pure (wpAny_pure hQ)

theorem lcomp_core {elt target iter : Expr} {ifs : List Expr} {scope : Scope} {pos p2 : Pos} {cl : List (Str × Addr)} {use : Option (Value → Sem Unit)} {Q : Value → Shared → Prop}
    (hclos : closureFor scope env = pure cl) (hkind : scope.kind = .function) (hnames : ∀ y ∈ scope.names, y.2 = .local → scope.names.lookup y.1 = some .local)
    (h : wpAny (model prog w) A (eval iter env) (fun xv s₁ => wpAny (model prog w) A (pyIter xv) (fun it s₂ => ∀ D C h₃ tk, CompStart s₂.heap h₃ D C (cellsFrom (C + 1) scope.names cl) cl →
      (∀ E' (Q' : Value → Shared → Prop), Q' it { s₂ with heap := h₃, toks := tk } → wpAny (model prog w) A (pyIter it) Q' E' { s₂ with heap := h₃, toks := tk }) ∧
      codeAny (model prog w) A (.compLoop (.ListComp elt [⟨target, iter, ifs, 0⟩] scope pos) 0 it (.ref D) (compEnvC scope (cellsFrom (C + 1) scope.names cl) C env)) (compPost (model prog w) A E use Q (.ref D) C) { s₂ with heap := h₃, toks := tk }) E s₁) E s)
    (hs : ∀ x, foldedSetIterable iter env x = pure x) :
    wpAny (model prog w) A (comprehension (.ListComp elt [⟨target, iter, ifs, 0⟩] scope pos) scope env p2 (newList []) false (eval iter env) use) Q E s := by
  refine wpAny_comprehension_free rfl hs hclos hkind hnames (wpAny_mono h (fun xv s₁ h₁ => wpAny_mono h₁ (fun it s₂ h₂ => ?_) fun _ _ e => e) fun _ _ e => e)
  refine wpAny_newObj_type (newEnv_comp ?_)
  dsimp only
  have z1 : (s₂.heap.push { cls := .type "list", data := .seq ([] : List Value).toArray }).objs.size = s₂.heap.objs.size + 1 := Heap.size_push ..
  generalize hH2 : s₂.heap.push { cls := .type "list", data := .seq ([] : List Value).toArray } = H2 at z1 ⊢
  have z2 : (H2.push { cls := .type "dict", data := .dict #[] }).objs.size = H2.objs.size + 1 := Heap.size_push ..
  have hk : Ext (H2.push { cls := .type "dict", data := .dict #[] }) (pushCells (H2.push { cls := .type "dict", data := .dict #[] }) scope.names) := pushCells_keeps _ _
  have hps := pushCells_size scope.names (H2.push { cls := .type "dict", data := .dict #[] })
  have hmem := cellsFrom_mem scope.names (H2.push { cls := .type "dict", data := .dict #[] }) cl cl H2.objs.size (by rw [z2]; exact Nat.lt_succ_self _) fun _ _ h => .inl h
  rw [z2] at hmem
  have H := h₂ s₂.heap.objs.size H2.objs.size (pushCells (H2.push { cls := .type "dict", data := .dict #[] }) scope.names) s₂.toks
    ⟨fun b o e => hk _ _ (Heap.get?_push_of_some _ (hH2 ▸ Heap.get?_push_of_some _ e)), Nat.le_refl _, by rw [z1]; exact Nat.le_succ _, by rw [z1]; exact Nat.lt_succ_self _, Nat.lt_of_lt_of_le (by rw [z2]; exact Nat.lt_succ_self _) hps,
      ⟨0, hk _ _ (Heap.get?_push_of_some _ (hH2 ▸ Heap.get?_push_size _ rfl))⟩, (Heap.Ns.new H2 (.type "dict")).keeps hk, hmem⟩
  exact codeAny_compStart_list H.2 (H.1 _ _ H.2)

theorem lcomp {elt target iter : Expr} {ifs : List Expr} {scope : Scope} {pos : Pos} {cl : List (Str × Addr)} {Q : Value → Shared → Prop}
    (hclos : closureFor scope env = pure cl) (hkind : scope.kind = .function) (hnames : ∀ y ∈ scope.names, y.2 = .local → scope.names.lookup y.1 = some .local)
    (h : wpAny (model prog w) A (eval iter env) (fun xv s₁ => wpAny (model prog w) A (pyIter xv) (fun it s₂ => ∀ D C h₃ tk, CompStart s₂.heap h₃ D C (cellsFrom (C + 1) scope.names cl) cl →
      (∀ E' (Q' : Value → Shared → Prop), Q' it { s₂ with heap := h₃, toks := tk } → wpAny (model prog w) A (pyIter it) Q' E' { s₂ with heap := h₃, toks := tk }) ∧
      codeAny (model prog w) A (.compLoop (.ListComp elt [⟨target, iter, ifs, 0⟩] scope pos) 0 it (.ref D) (compEnvC scope (cellsFrom (C + 1) scope.names cl) C env))
        (fun r s' => r = .ok .next ∧ ∃ m, s'.heap.Ns C m ∧ ∀ h', Heap.SameBut C s'.heap h' → Q (.ref D) { s' with heap := h' }) { s₂ with heap := h₃, toks := tk }) E s₁) E s)
    (hs : ∀ x, foldedSetIterable iter env x = pure x := by intro _; rfl) :
    wpAny (model prog w) A (eval (.ListComp elt [⟨target, iter, ifs, 0⟩] scope pos) env) Q E s := by
  rw [eval_ListComp]
  refine lcomp_core (use := none) hclos hkind hnames (wpAny_mono h (fun xv s₁ h₁ => wpAny_mono h₁ (fun it s₂ h₂ D C h₃ tk hc => ⟨(h₂ D C h₃ tk hc).1, codeAny_mono (h₂ D C h₃ tk hc).2 ?_⟩) fun _ _ e => e) fun _ _ e => e) hs
  rintro r s' ⟨rfl, m, hm, hQ⟩
  exact ⟨m, hm, hQ⟩

/-- x = [.. for ..] -/
theorem lcomp_assign {elt target iter : Expr} {ifs : List Expr} {scope : Scope} {pos spos py : Pos} {y : Str} {cl : List (Str × Addr)} {Q : Flow → Shared → Prop}
    (hsw : swapsWith (.ListComp elt [⟨target, iter, ifs, 0⟩] scope pos) (some (.Name y py)) spos.line env = pure true)
    (hclos : closureFor scope env = pure cl) (hkind : scope.kind = .function) (hnames : ∀ y ∈ scope.names, y.2 = .local → scope.names.lookup y.1 = some .local)
    (h : wpAny (model prog w) A (eval iter env) (fun xv s₁ => wpAny (model prog w) A (pyIter xv) (fun it s₂ => ∀ D C h₃ tk, CompStart s₂.heap h₃ D C (cellsFrom (C + 1) scope.names cl) cl →
      (∀ E' (Q' : Value → Shared → Prop), Q' it { s₂ with heap := h₃, toks := tk } → wpAny (model prog w) A (pyIter it) Q' E' { s₂ with heap := h₃, toks := tk }) ∧
      codeAny (model prog w) A (.compLoop (.ListComp elt [⟨target, iter, ifs, 0⟩] scope pos) 0 it (.ref D) (compEnvC scope (cellsFrom (C + 1) scope.names cl) C env))
        (fun r s' => r = .ok .next ∧ wpAny (model prog w) A (storeName env y (.ref D)) (fun _ s'' => ∃ m, s''.heap.Ns C m ∧ ∀ h', Heap.SameBut C s''.heap h' → Q .next { s'' with heap := h' }) E s') { s₂ with heap := h₃, toks := tk }) E s₁) E s)
    (hs : ∀ x, foldedSetIterable iter env x = pure x := by intro _; rfl) :
    wpAny (model prog w) A (exec (.Assign [.Name y py] (.ListComp elt [⟨target, iter, ifs, 0⟩] scope pos) spos) env) Q E s := by
  rw [exec_Assign_Name_used _ _ _ _ hsw]
  refine wpAny_bind (wpAny_standAt ?_)
  refine wpAny_bind ?_
  unfold evalThenUse
  refine wpAny_bind (lcomp_core (use := some (assign (.Name y py) env)) hclos hkind hnames (wpAny_mono h (fun xv s₁ h₁ => wpAny_mono h₁ (fun it s₂ h₂ D C h₃ tk hc => ⟨(h₂ D C h₃ tk hc).1, codeAny_mono (h₂ D C h₃ tk hc).2 ?_⟩) fun _ _ e => e) fun _ _ e => e) hs)
  rintro r s' ⟨rfl, hst⟩
  refine wpAny_assign_Name (wpAny_mono hst (fun _ s'' hq => ?_) fun _ _ e => e)
  obtain ⟨m, hm, hQ⟩ := hq
  exact ⟨m, hm, fun h' hs' => wpAny_pure (wpAny_pure (hQ h' hs'))⟩

/-- a call of a def with cells: its frame -/
theorem call_fnC {Z : Zone} {g : Heap} {R : Result → Shared → Prop} {n : Nat} {f : Addr} {st : Stmt} {qn : Str} {cd : Value} {vals : List Value} {binds : List (Str × Value)} (Rm : Room A (n + 1)) (S : St Z g s s) (W : WF Z g) (hF : FnAt g f st qn cd)
    (hbind : ∀ nm dc pm an ct, bindArgs (fnOf nm qn (argsOf st) (bodyOf st) (scopeOf st) .none .none dc pm an cd ct) ⟨vals, []⟩ = pure binds)
    (hkind : ∀ k, ∀ x ∈ binds, (scopeOf st).names.lookup x.1 = some .local ∨ ((scopeOf st).names.lookup x.1 = some .cell ∧ ((cellsFrom k (scopeOf st).names []).lookup x.1).isSome = true))
    (h : ∀ L s₁, s.heap.objs.size ≤ L → InCallC s L (bindL (fun x => (scopeOf st).names.lookup x) binds fun _ => none) (mkEnvC st L f qn cd).cells (bindC (fun x => (scopeOf st).names.lookup x) binds fun _ => none) s₁ → St Z g s s₁ →
      wpAny (model prog w) (A.deeper (mkEnvC st L f qn cd)) (execs (bodyOf st) (mkEnvC st L f qn cd)) (fun fl s' => R (.ok (.ret (match fl with | .ret v => v | _ => .none))) s') (fun _ _ => False) s₁)
    (hco : (scopeOf st).isCoroutine = false) (hgen : (scopeOf st).isGenerator = false) (hk : (scopeOf st).kind = .function) :
    codeAny (model prog w) A (.call (.ref f) ⟨vals, []⟩) R s := by
  obtain ⟨o, nm, dc, pm, an, ct, ho, hd, hc⟩ := hF
  refine codeAny_call_cells (fd := fnOf nm qn (argsOf st) (bodyOf st) (scopeOf st) .none .none dc pm an cd ct) (body := bodyOf st) (binds := binds) Rm.lim (S.sub _ _ ho) hd (W.lim.keeps S.sub) (hc.keeps S.sub) rfl
    (hbind nm dc pm an ct) rfl (fun x hx => hkind _ x hx) (fun s₁ hin => ?_) hco hgen hk
  have hkeep := hin.toInCall.keep
  obtain ⟨h', tk, rfl⟩ := hin.toInCall.same
  have hs : s.heap.objs.size ≤ h'.objs.size := Nat.le_of_lt (Nat.lt_of_le_of_lt hin.toInCall.fresh hin.toInCall.ns.lt)
  exact wpAny_mono (h s.heap.objs.size _ (Nat.le_refl _) hin (S.grown (tk := tk) hkeep hs)) (fun _ _ x => x) fun _ _ x => x.elim
end
end Mine
/-! M18 -/
namespace Mine
open PySem PySem.W PyProof.Rows PySem.Calls
set_option maxRecDepth 100000

/-- the part that stands still has grown; nothing below n has come into sight -/
structure Grown (g : Heap) (n : Nat) (g' : Heap) : Prop where
  ext : Ext g g'
  old : ∀ b, b < n → g'.get? b = g.get? b
theorem Grown.refl (g : Heap) (n : Nat) : Grown g n g := ⟨Ext.refl _, fun _ _ => rfl⟩
theorem Grown.trans {g g' g'' : Heap} {n m : Nat} (x : Grown g n g') (y : Grown g' m g'') (h : n ≤ m) : Grown g n g'' := ⟨x.ext.trans y.ext, fun b hb => (y.old b (Nat.lt_of_lt_of_le hb h)).trans (x.old b hb)⟩
theorem Back.grown {Z : Zone} {g : Heap} {s : Shared} {Post : Heap → Value → Prop} {v : Value} {s' : Shared} {g' : Heap} (B : Back Z g s Post v s' g') : Grown g s.heap.objs.size g' := ⟨B.ext, B.own⟩
theorem Back.at {Z : Zone} {g g' : Heap} {s s' : Shared} {Post : Heap → Value → Prop} {v : Value} (S : St Z g' s s') (G : Grown g s.heap.objs.size g') (hp : Post g' v) : Back Z g s Post v s' g' := ⟨S, G.ext, G.old, hp⟩

/-- what is new and not one's own is seen from here -/
theorem St.see {Z : Zone} {g : Heap} {s₀ s : Shared} (S : St Z g s₀ s) (own : List Addr) (ho : ∀ a ∈ own, g.get? a = none) :
    ∃ g', St Z g' s₀ s ∧ Grown g s₀.heap.objs.size g' ∧ (∀ a ∈ own, g'.get? a = none) ∧ ∀ b o, s.heap.get? b = some o → (g.get? b ≠ none ∨ s₀.heap.objs.size ≤ b) → b ∉ own → g'.get? b = some o :=
  ⟨grow g s₀.heap.objs.size s.heap own, { S with sub := grow_sub _ _ _ _, gP := grow_none S.tab₀.2 S.gP }, ⟨grow_ext S.sub ho, grow_old S.sub ho⟩, fun _ h => grow_own h, fun _ _ e h hb => grow_get e hb h⟩

section
variable {prog : Program} {w : World} {M : Model} {A : Around} {E : Value → Shared → Prop} {s : Shared} {env : Env}

theorem ldC {x : Str} {pos : Pos} {c : Addr} {v : Value} {Q : Value → Shared → Prop} (hc : s.heap.IsCell c (some v)) (h : Q v s) (hk : env.scope.kind = .function := by rfl) (hl : env.kindOf x = some .cell := by rfl)
    (hlk : env.cells.lookup x = some c := by rfl) (hd : (x == ("__debug__" : Str)) = false := by decide) : wpAny M A (eval (.Name x pos) env) Q E s := wpAny_Name (wpAny_loadName_cell hk hl hlk hc h) hd

theorem D.seen {prog : Program} {w : World} {h g : Heap} {d : Addr} {xs : List Ent} (x : D prog w h d xs) (hd : ∀ o, h.get? d = some o → g.get? d = some o) (hk : ∀ y ∈ xs, IsKey g y.1 y.2.1) : D prog w g d xs := by
  obtain ⟨o, es, ep, ho, hc, hdat, he, his, hn⟩ := x
  exact ⟨o, es, ep, hd _ ho, hc, hdat, he, fun y hy => kk_is.mpr (hk y hy), hn⟩
end

def fourOf (n : Int) : Four := (n, 1, 2 * n, 0 - n)

section
variable {prog : Program} {w : World} {A : Around} {s : Shared} {Z : Zone} {g : Heap}

theorem isCell_kept {h h' : Heap} {c : Addr} {v : Option Value} (x : h.IsCell c v) (hk : ∀ o, h.get? c = some o → h'.get? c = some o) : h'.IsCell c v := let ⟨o, ho, hd⟩ := x; ⟨o, hk _ ho, hd⟩

theorem PairsAt.push {h : Heap} {items : List Value} {ps : List Ent} {k : Int} {a p : Addr} {v : Value} (x : PairsAt h items ps) (ht : h.IsTuple p #[.ref a, v]) (hk : IsKey h k a) : PairsAt h (items ++ [.ref p]) (ps ++ [(k, a, v)]) := by
  refine ⟨by simp [x.1], fun j y hy => ?_⟩
  rcases Nat.lt_or_ge j ps.length with hj | hj
  · rw [List.getElem?_append_left hj] at hy
    obtain ⟨q, h1, h2, h3⟩ := x.2 j y hy
    exact ⟨q, by rw [List.getElem?_append_left (by rw [x.1]; exact hj)]; exact h1, h2, h3⟩
  · rw [List.getElem?_append_right hj] at hy
    have : j - ps.length = 0 := by
      rcases Nat.eq_zero_or_pos (j - ps.length) with h | h
      · exact h
      · rw [List.getElem?_eq_none (by simp; omega)] at hy; cases hy
    rw [this] at hy
    cases hy
    refine ⟨p, ?_, ht, hk⟩
    rw [List.getElem?_append_right (by rw [x.1]; exact hj), x.1, this]; rfl

theorem fours_spec {d : Addr} {c : List (Int × Int)} {n : Nat} (Rm : Room A (n + 2)) (S : St Z g s s) (W : WF Z g) (hc : Cnt prog w g d c) (hsz : sysModules < s.heap.objs.size) :
    codeAny (model prog w) A (.call (.ref Z.fFours) ⟨[.ref d], []⟩)
      (Gives Z g s fun g' v => ∃ d', v = .ref d' ∧ s.heap.objs.size ≤ d' ∧ CntG repF prog w g' d' (c.map fun p => (p.1, fourOf p.2))) s := by
  obtain ⟨cd, hF⟩ := W.nFours
  obtain ⟨hdS, xs, hD, hI, rfl, hR⟩ := hc
  refine call_fnC (binds := [(Str.ofString "counts", .ref d)]) (n := n + 1) Rm S W hF (fun nm dc pm an ct => rfl) (fun k x hx => ?_) (fun L s₁ hL hin S₁ => ?_) rfl rfl rfl
  · rw [List.mem_singleton] at hx
    subst hx
    exact .inr ⟨rfl, rfl⟩
  have gL : g.get? L = none := fresh_none S hL
  generalize hA : A.deeper (mkEnvC dFours L Z.fFours (Str.ofString "_law_fours") cd) = A'
  have Rm' : Room A' (n + 1) := hA ▸ Rm.deeper _
  have hu : A'.units + 6 < cLine := by have := Rm'.unit; omega
  have hcc : s₁.heap.IsCell (L + 1) (some (.ref d)) := hin.cell (Str.ofString "counts") _ rfl
  have gcc : g.get? (L + 1) = none := fresh_none S (Nat.le_succ_of_le hL)
  clear hin
  obtain ⟨es, ep, hraw, hes, hget⟩ := hD.rawAt
  refine wpAny_execs_cons (wpAny_Return_some (wpAny_Call_Name_kw (ldBW W S₁.sub (by decide) rfl ?_)))
  refine PySem.callWith_type rfl (evalArgs_plain (spliced_cons ?_))
  refine lcomp (cl := [(Str.ofString "counts", L + 1)]) rfl rfl (by decide) (ldC hcc ?_)
  refine raw_pyIter hdS (hraw.ext S₁.sub) fun D C h₃ tk₃ CS => ?_
  dsimp only at CS
  have e₃ : Ext s₁.heap h₃ := (Ext.push s₁.heap _).trans CS.ext
  have hit₃ : h₃.IsKeyIter s₁.heap.objs.size d 0 es.size ep := ⟨_, CS.ext _ _ (Heap.get?_push_size _ rfl), rfl, rfl⟩
  have hitn : s.heap.objs.size ≤ s₁.heap.objs.size := S₁.size
  have hcit : L + 1 < s₁.heap.objs.size := hcc.lt
  have hitD : s₁.heap.objs.size < D := by have := CS.Dn; rw [Heap.size_push] at this; exact this
  have hDC := CS.DC
  have S₃ := S₁.grown (tk := tk₃) e₃ (Nat.le_of_lt (Nat.lt_trans hitD (Nat.lt_trans hDC CS.size)))
  have gn : ∀ a ∈ [L + 1, s₁.heap.objs.size, C, D], g.get? a = none := fun a ha => by
    simp only [List.mem_cons, List.not_mem_nil, or_false] at ha
    rcases ha with rfl | rfl | rfl | rfl
    · exact gcc
    · exact fresh_none S hitn
    · exact fresh_none S (Nat.le_trans hitn (Nat.le_of_lt (Nat.lt_trans hitD hDC)))
    · exact fresh_none S (Nat.le_trans hitn (Nat.le_of_lt hitD))
  have hcc₃ : h₃.IsCell (L + 1) (some (.ref d)) := isCell_kept hcc fun o e => e₃ _ _ e
  have hns₃ := CS.ns
  have hl₃ := CS.list
  clear CS e₃ hcc
  generalize s₁.heap.objs.size = it at *
  refine ⟨fun E' Q' hq => wpAny_pyIter_keyiter hit₃ hq, ?_⟩
  have hshort := keys_short hD hR
  have hCn : s.heap.objs.size ≤ C := Nat.le_trans hitn (Nat.le_of_lt (Nat.lt_trans hitD hDC))
  refine codeAny_compLoop_tests (fun k s' => ∃ i m g' items ps, k = xs.length - i ∧ i ≤ xs.length ∧ St Z g' s s' ∧ Grown g s.heap.objs.size g' ∧ (∀ a ∈ [L + 1, it, C, D], g'.get? a = none) ∧ s'.heap.Ns C m ∧ s'.heap.IsKeyIter it d i es.size ep ∧
    s'.heap.IsCell (L + 1) (some (.ref d)) ∧ s'.heap.PlainList D items ∧ PairsAt g' items.toList ps ∧ ps.map (fun y => (y.1, y.2.1)) = (xs.take i).map (fun y => (y.1, y.2.1)) ∧
    Ents (repF.rep g') ps (((absI xs).take i).map fun p => (p.1, fourOf p.2)) ∧ ∀ y ∈ ps, Vis g s.heap.objs.size y) ?_ xs.length
    ⟨0, _, g, #[], [], rfl, Nat.zero_le _, S₃, Grown.refl _ _, gn, hns₃, hit₃, hcc₃, hl₃, ⟨rfl, fun j y h => by simp at h⟩, rfl, .nil, (fun _ h => nomatch h)⟩
  clear S₃ gn hns₃ hit₃ hcc₃ hl₃
  rintro k s' ⟨i, m, g', items, ps, rfl, hi, S', G', gn, hns', hit, hcc, hl, hP, hkeys, hE, hV⟩
  have eg : Ext g s'.heap := G'.ext.trans S'.sub
  have hCi : C ≠ it := Nat.ne_of_gt (Nat.lt_trans hitD hDC)
  have hDi : D ≠ it := Nat.ne_of_gt hitD
  have hci : L + 1 ≠ it := Nat.ne_of_lt hcit
  have hcC : L + 1 ≠ C := Nat.ne_of_lt (Nat.lt_trans hcit (Nat.lt_trans hitD hDC))
  have hcD : L + 1 ≠ D := Nat.ne_of_lt (Nat.lt_trans hcit hitD)
  have hDC' : D ≠ C := Nat.ne_of_lt hDC
  by_cases hlt : i < xs.length
  · have hx := List.getElem?_eq_getElem hlt
    refine raw_next_key hit (hraw.ext eg) (hget i _ hx) fun h₅ hit₅ hs₅ => ?_
    have S₅ := S'.same (tk := s'.toks) (gn it (by simp)) hitn hs₅
    have hns₅ := hns'.sameBut hs₅ hCi
    refine wpAny_assign_Name (stL S₅ hns₅ (gn C (by simp)) hCn fun s₆ hns₆ hs₆ S₆ => ?_)
    have hit₆ := hit₅.extBut hs₆.extBut (Ne.symm hCi)
    have hcc₆ := (hcc.sameBut hs₅ hci).sameBut hs₆ hcC
    have hl₆ := (hl.extBut hs₅.extBut hDi).extBut hs₆.extBut hDC'
    refine wpAny_tests_nil ?_
    rw [if_pos rfl]
    have hd₆ : Mine.D prog w s₆.heap d xs := hD.ext (G'.ext.trans S₆.sub)
    have hkey := hD.keys _ (List.getElem_mem hlt)
    obtain ⟨tv, hv⟩ := hI xs[i] (List.getElem_mem hlt)
    have hak : atKey xs xs[i].1 = some (xs[i].2.1, .int (intOf xs[i].2.2) tv) := by
      rw [← hv]; exact atKey_of_get hD.nodup (k := xs[i].1) (p := xs[i].2) hx
    have hk₆ : IsKey s₆.heap xs[i].1 xs[i].2.1 := hkey.ext (G'.ext.trans S₆.sub)
    have hu' : A'.in1.units < cLine := by show A'.units + 1 < cLine; omega
    refine wpAny_Tuple (wpAny_items_cons (ldL hns₆ rfl (wpAny_items_cons (wpAny_Tuple ?_))))
    refine wpAny_items_cons (wpAny_Subscript_Name_late (ldC hcc₆ (ldL hns₆ rfl (sub_dict (kk_room hu') hk₆ hd₆ hak fun tk₇ => ?_))))
    refine wpAny_items_cons (wpAny_Constant_int ?_)
    refine wpAny_items_cons (wpAny_BinOp (wpAny_Constant_int (wpAny_Subscript_Name_late (ldC hcc₆ (ldL hns₆ rfl (sub_dict (kk_room hu') hk₆ hd₆ hak fun tk₈ => mul_int ?_))))))
    refine wpAny_items_cons (wpAny_BinOp (wpAny_Constant_int (wpAny_Subscript_Name_late (ldC hcc₆ (ldL hns₆ rfl (sub_dict (kk_room hu') hk₆ hd₆ hak fun tk₉ => sub_int ?_))))))
    refine wpAny_items_nil ⟨len_le_line (by simp), wpAny_items_nil ⟨len_le_line (by simp), ?_⟩⟩
    dsimp only
    have hDlt : D < s₆.heap.objs.size := let ⟨_, e⟩ := hl₆; Heap.lt_size e
    have hCn' : C < s₆.heap.objs.size := hns₆.lt
    have hin : it < s₆.heap.objs.size := let ⟨_, e, _⟩ := hit₆; Heap.lt_size e
    have hcn : L + 1 < s₆.heap.objs.size := hcc₆.lt
    have hs6 : s.heap.objs.size ≤ s₆.heap.objs.size := S₆.size
    have hDn : s.heap.objs.size ≤ D := Nat.le_trans hitn (Nat.le_of_lt hitD)
    have hil : items.size = i := by
      have h1 := hP.1
      have h2 := congrArg List.length hkeys
      rw [List.length_map, List.length_map, List.length_take] at h2
      rw [← Array.length_toList, h1, h2]; omega
    refine wpAny_list_append_plain (hl₆.at fun o e => Heap.get?_push_of_some _ (Heap.get?_push_of_some _ e)) (fun h₈ hl₈ hs₈ => ?_) (by rw [sizeLine_eq, hil]; omega)
    have S₈ := ((S₆.push (tk := 0) _).push (tk := 0) _).same (tk := tk₉ + 1) (gn D (by simp)) hDn hs₈
    have hT1 := hs₈.extBut _ _ (Nat.ne_of_gt hDlt) (Heap.get?_push_of_some _ (Heap.get?_push_size _ rfl))
    have hT2 := hs₈.extBut _ _ (Nat.ne_of_gt (Nat.lt_of_lt_of_le hDlt (by rw [Heap.size_push]; exact Nat.le_succ _))) (Heap.get?_push_size _ rfl)
    have e₈ : ∀ b o, b ≠ D → s₆.heap.get? b = some o → h₈.get? b = some o := fun b o hb e => hs₈.extBut _ _ hb (Heap.get?_push_of_some _ (Heap.get?_push_of_some _ e))
    have hT2n : s₆.heap.objs.size < (s₆.heap.push { cls := .type "tuple", data := .seq #[Value.int (intOf xs[i].snd.snd) tv, Value.int 1 tk₇, Value.int (2 * intOf xs[i].snd.snd) tk₈, Value.int (0 - intOf xs[i].snd.snd) tk₉] }).objs.size := by
      rw [Heap.size_push]; exact Nat.lt_succ_self _
    obtain ⟨g'', S₉, G₉, gn₉, see⟩ := S₈.see [L + 1, it, C, D] gn
    dsimp only at S₉ see hT1 hT2 hl₈
    generalize (s₆.heap.push { cls := .type "tuple", data := .seq #[Value.int (intOf xs[i].snd.snd) tv, Value.int 1 tk₇, Value.int (2 * intOf xs[i].snd.snd) tk₈, Value.int (0 - intOf xs[i].snd.snd) tk₉] }).objs.size = T2 at *
    have nin : ∀ T, s₆.heap.objs.size ≤ T → T ∉ [L + 1, it, C, D] := fun T hT hm => by
      simp only [List.mem_cons, List.not_mem_nil, or_false] at hm
      rcases hm with rfl | rfl | rfl | rfl
      · exact Nat.not_le.mpr hcn hT
      · exact Nat.not_le.mpr hin hT
      · exact Nat.not_le.mpr hCn' hT
      · exact Nat.not_le.mpr hDlt hT
    have gT1 := see _ _ hT1 (.inr hs6) (nin _ (Nat.le_refl _))
    have gT2 := see _ _ hT2 (.inr (Nat.le_trans hs6 (Nat.le_of_lt hT2n))) (nin _ (Nat.le_of_lt hT2n))
    refine ⟨xs.length - (i + 1), by omega, i + 1, _, g'', _, ps ++ [(xs[i].1, xs[i].2.1, .ref s₆.heap.objs.size)], rfl, hlt, S₉, G'.trans G₉ (Nat.le_refl _), gn₉, hns₆.at' fun o e => e₈ _ o (Ne.symm hDC') e, ?_, isCell_kept hcc₆ fun o e => e₈ _ o hcD e, hl₈, ?_, ?_, ?_, ?_⟩
    · obtain ⟨o, ho, r⟩ := hit₆
      exact ⟨o, e₈ _ _ (Ne.symm hDi) ho, r⟩
    · rw [Array.toList_push]
      exact (hP.ext G₉.ext).push ⟨_, gT2, rfl, 0, rfl⟩ (hkey.ext (G'.ext.trans G₉.ext))
    · rw [List.map_append, hkeys, List.take_succ_eq_append_getElem hlt, List.map_append]
      rfl
    · have hl' : i < (absI xs).length := by rw [absI, List.length_map]; exact hlt
      rw [List.take_succ_eq_append_getElem hl', List.map_append]
      have e : (absI xs)[i] = (xs[i].1, intOf xs[i].2.2) := by simp [absI]
      rw [e]
      exact (hE.mono (R' := repF.rep g'') fun y _ x h => repF.kept h (SeqKept.ext G₉.ext)).append (.cons ⟨_, rfl, tv, _, _, _, _, gT1, rfl, 0, rfl⟩ .nil)
    · intro y hy
      rcases List.mem_append.mp hy with hy | hy
      · exact hV y hy
      · rw [List.mem_singleton] at hy; subst hy
        refine ⟨.inl ?_, fun p hp => by cases hp; exact .inr hs6⟩
        obtain ⟨o, _, _, _, _, ho, _⟩ := hkey
        rw [ho]; simp
  · have hin : i = xs.length := by omega
    refine raw_next_key_end Rm'.hd hit (hraw.ext eg) (by rw [hes, hin]; exact Nat.le_refl _) fun h₅ he => ?_
    have hns₅ := hns'.extBut he hCi
    refine ⟨rfl, _, hns₅, fun h₆ hs₆ => spliced_nil ?_⟩
    have S₅ := S'.but (tk := s'.toks) it (gn it (by simp)) hitn he (Nat.le_trans hCn (Nat.le_of_lt hns₅.lt))
    have S₆ := S₅.same (tk := s'.toks) (gn C (by simp)) hCn hs₆
    obtain ⟨nl, hl₆⟩ := (hl.at (h' := h₅) fun o e => he _ _ hDi e).extBut hs₆.extBut hDC'
    have hC₆ : C < h₆.objs.size := by rw [hs₆.1]; exact hns₅.lt
    have hlen : ps.length ≤ 5 := by
      have h2 := congrArg List.length hkeys
      rw [List.length_map, List.length_map, List.length_take] at h2
      omega
    have hk1 : ps.map (·.1) = xs.map (·.1) := by
      have h2 := congrArg (List.map (·.1)) hkeys
      rw [List.map_map, List.map_map, hin, List.take_length] at h2
      exact h2
    dsimp only at S₆
    refine call_dict_pairs (items := items.toList) (ps := ps) (n := nl) Rm'.hd hu (by omega) (by rw [hk1]; exact hD.nodup) (by simpa using hl₆) (hP.ext S₆.sub) fun h₇ tk₇ e₇ hsz₇ hd₇ => ?_
    have S₇ := S₆.grown (tk := tk₇) e₇ (Nat.le_of_lt hsz₇)
    have hdn : s.heap.objs.size ≤ h₆.objs.size := S₆.size
    obtain ⟨g'', S₈, G₈, gn₈, see⟩ := S₇.see [L + 1, it, C, D] gn
    obtain ⟨o, ho⟩ : ∃ o, h₇.get? h₆.objs.size = some o := let ⟨o, _, _, ho, _⟩ := hd₇; ⟨o, ho⟩
    have gd := see _ _ ho (.inr hdn) fun hm => by
      simp only [List.mem_cons, List.not_mem_nil, or_false] at hm
      rcases hm with h | h | h | h
      · exact Nat.lt_irrefl _ (h ▸ Nat.lt_trans (Nat.lt_trans (Nat.lt_trans hcit hitD) hDC) hC₆)
      · exact Nat.lt_irrefl _ (h ▸ Nat.lt_trans (Nat.lt_trans hitD hDC) hC₆)
      · exact Nat.lt_irrefl _ (h ▸ hC₆)
      · exact Nat.lt_irrefl _ (h ▸ Nat.lt_trans hDC hC₆)
    have hd₈ : Mine.D prog w g'' h₆.objs.size ps := hd₇.seen (fun o' e => by rw [ho] at e; cases e; exact gd) fun y hy => by
      obtain ⟨j, hj⟩ := List.mem_iff_getElem?.mp hy
      obtain ⟨_, _, _, h3⟩ := hP.2 j y hj
      exact h3.ext G₈.ext
    refine ⟨_, _, rfl, Back.at S₈ (G'.trans G₈ (Nat.le_refl _)) ⟨_, rfl, hdn, beq_eq_false_iff_ne.mpr (Nat.ne_of_gt (Nat.lt_of_lt_of_le hsz hdn)), ps, hd₈, ?_, fun y hy => ?_⟩⟩
    · rw [hin, List.take_of_length_le (by simp [absI])] at hE
      exact hE.mono fun y _ x h => repF.kept h (SeqKept.ext G₈.ext)
    · have : y.1 ∈ ps.map (·.1) := List.mem_map.mpr ⟨y, hy, rfl⟩
      rw [hk1] at this
      obtain ⟨z, hz, e⟩ := List.mem_map.mp this
      rw [← e]; exact hR z hz
end
end Mine
/-! M19 -/
namespace Mine
open PySem PySem.W PyProof.Rows PySem.Calls
set_option maxRecDepth 100000

section
variable {prog : Program} {w : World} {M : Model} {A : Around} {E : Value → Shared → Prop} {s : Shared} {env : Env} {Z : Zone} {g : Heap}

theorem inOrder_nil {Q : Unit → Shared → Prop} (h : Q () s) : wpAny M A (assignInOrder [] []) Q E s := wpAny_pure h
theorem inOrder_cons {f : Value → Sem Unit} {fs : List (Value → Sem Unit)} {v : Value} {vs : List Value} {Q : Unit → Shared → Prop} (h : wpAny M A (f v) (fun _ s' => wpAny M A (assignInOrder fs vs) Q E s') E s) :
    wpAny M A (assignInOrder (f :: fs) (v :: vs)) Q E s := by
  show wpAny M A (do holding vs (f v); assignInOrder fs vs) Q E s
  exact wpAny_bind (wpAny_holding h)

/-- a call of a def of ours -/
theorem call_mine {s₀ : Shared} {f : Addr} {st : Stmt} {qn : Str} {cd : Value} {vals : List Value} {Post : Heap → Value → Prop} {Q : Value → Shared → Prop} (hspec : codeAny (model prog w) A (.call (.ref f) ⟨vals, []⟩) (Gives Z g s Post) s)
    (S : St Z g s₀ s) (_hF : FnAt g f st qn cd) (h : ∀ v g' s', Back Z g s Post v s' g' → St Z g' s₀ s' → Q v s') : wpAny (model prog w) A (call (.ref f) vals) Q E s :=
  wpAny_call (codeAny_mono hspec (by rintro r s' ⟨v, g', rfl, B⟩; exact h v g' s' B (S.trans B.st)))
theorem callW {pos : Pos} {f : Addr} {st : Stmt} {qn : Str} {cd : Value} {x : Sem Value} {rest : List (Bool × Sem Value)} {Q : Value → Shared → Prop} (hF : FnAt g f st qn cd)
    (h : wpAny M A (spliced ((false, x) :: rest)) (fun vs s₁ => Ext g s₁.heap ∧ wpAny M A (call (.ref f) vs) Q E s₁) E s) : wpAny M A (callWith pos (.ref f) [] ((false, x) :: rest) []) Q E s := by
  obtain ⟨o, nm, dc, pm, an, ct, ho, hd, hc⟩ := hF
  exact callWith_function (evalArgs_plain (wpAny_mono h (fun vs s₁ h₁ => ⟨⟨h₁.1 _ _ ho, hd⟩, h₁.2⟩) fun _ _ x => x))

/-- x[..] -/
theorem sub_on {value slice : Expr} {pos : Pos} {Q : Value → Shared → Prop}
    (h : wpAny (model prog w) A (eval value env) (fun o s₁ => wpAny (model prog w) A (eval slice env) (fun i s₂ => (∃ ops, subscripted slice false o i = operate ops (getItem o i)) ∧ ItemOn (model prog w) A E o i Q s₂) E s₁) E s) :
    wpAny (model prog w) A (eval (.Subscript value slice pos) env) Q E s := by
  refine Subscript_ (wpAny_mono h (fun o s₁ h₁ => wpAny_mono h₁ (fun i s₂ h₂ => ?_) fun _ _ e => e) fun _ _ e => e)
  obtain ⟨⟨ops, hs⟩, T, id, hl, hT, hg⟩ := h₂
  unfold subscriptTail
  refine wpAny_bind ?_
  rw [getitemInPython_of_ne hT.not_modules]
  refine wpAny_bind (wpAny_specialOf hT hl ?_)
  have fin : wpAny (model prog w) A (subscripted slice false o i) (fun r s₃ => wpAny (model prog w) A (letTemporaryGo value o r >>= fun _ => pure r) Q E s₃) E s₂ := by
    rw [hs]
    exact wpAny_operating (wpAny_mono hg (fun r s₃ h₃ => wpAny_bind (wpAny_letTemporaryGo (wpAny_pure h₃))) fun _ _ x => x)
  first
    | exact wpAny_pure (wpAny_bind fin)
    | exact wpAny_bind (wpAny_pure (wpAny_bind fin))
    | exact wpAny_bind fin

theorem item_tup {t : Addr} {items : Array Value} {k : Int} {u : Tok} {j : Nat} {x : Value} {Q : Value → Shared → Prop} (ht : s.heap.IsTuple t items) (hj : seqIndex? k items.size = some j) (hx : items[j]? = some x) (h : Q x s)
    (hlo : -(2 ^ 63) ≤ k := by decide) (hhi : k < 2 ^ 63 := by decide) : ItemOn (model prog w) A E (.ref t) (.int k u) Q s :=
  ⟨"tuple", _, PyProof.Rows.slot_tuple_getitem.lookup, ht.typeIs, getItem_tuple (let ⟨o, ho, hc, n, hd⟩ := ht; ⟨o, ho, hc, n, hd⟩) hlo hhi hj hx h⟩

/-! a tuple's begin -/
theorem adjust_to {b n : Nat} (hb : b ≤ n) : Builtin.Slice.sliceAdjust none (some (b : Int)) 1 (n : Int) = (0, (b : Int)) := by
  unfold Builtin.Slice.sliceAdjust
  have h1 : ¬ ((1 : Int) < 0) := by omega
  have h2 : ¬ ((b : Int) < 0) := by omega
  simp only [h1, h2, if_false]
  congr 1
  omega
theorem places_to (b : Nat) : Builtin.Slice.slicePlaces 0 (b : Int) 1 = b := by
  unfold Builtin.Slice.slicePlaces
  have h1 : (1 : Int) > 0 := by omega
  simp only [h1, if_true, Int.ediv_one]
  split <;> omega
theorem applied_to {sl : Addr} {b n : Nat} {u : Tok} {Q : Int × Int × Nat → Shared → Prop} (hs : s.heap.IsSliceOf sl .none (.int b u) .none) (hb : b ≤ n) (h : Q (0, 1, b) s) :
    wpAny (model prog w) A (Builtin.Slice.sliceApplied (.ref sl) (pure (n : Int))) Q E s := by
  obtain ⟨os, hos, hcs, hds⟩ := id hs
  unfold Builtin.Slice.sliceApplied Builtin.Slice.sliceFields
  refine wpAny_bind (wpAny_bind (wpAny_field hos hds (x := .none) rfl (wpAny_bind (wpAny_field hos hds (x := .int b u) rfl (wpAny_bind (wpAny_field hos hds (x := .none) rfl (wpAny_pure ?_)))))))
  refine wpAny_bind (slicePart_none ?_)
  show wpAny _ _ (if ((1 : Int) == 0) = true then _ else _) _ _ s
  rw [if_neg (by decide)]
  refine wpAny_bind (slicePart_none (wpAny_bind (slicePart_int (wpAny_bind (wpAny_pure ?_)))))
  show wpAny _ _ (match Builtin.Slice.sliceAdjust none (some (b : Int)) 1 (n : Int) with | (lo, hi) => pure (lo, (1 : Int), Builtin.Slice.slicePlaces lo hi 1)) _ _ s
  rw [adjust_to hb]
  show wpAny _ _ (pure ((0 : Int), (1 : Int), Builtin.Slice.slicePlaces 0 (b : Int) 1)) _ _ s
  rw [places_to]
  exact wpAny_pure h
theorem getItem_to {t sl : Addr} {items ys : Array Value} {b : Nat} {u : Tok} {Q : Value → Shared → Prop} (ht : s.heap.IsTuple t items) (hs : s.heap.IsSliceOf sl .none (.int b u) .none) (hb : b < items.size) (hb' : b ≤ 1000)
    (hys : ((List.range b).filterMap fun (k : Nat) => items[((0 : Int) + (k : Int) * 1).toNat]?).toArray = ys)
    (h : Q (.ref s.heap.objs.size) { s with heap := s.heap.push { cls := .type "tuple", data := .seq ys } }) : wpAny (model prog w) A (getItem (.ref t) (.ref sl)) Q E s := by
  have hdrop : sizeOk (.seq ys) := by
    show ys.size ≤ sizeLine
    rw [← hys, sizeLine_eq, List.size_toArray]
    have := List.length_filterMap_le (fun (k : Nat) => items[((0 : Int) + (k : Int) * 1).toNat]?) (List.range b)
    rw [List.length_range] at this
    omega
  have ht' : IsTup s.heap t items := let ⟨o, ho, hc, n, hd⟩ := ht; ⟨o, ho, hc, n, hd⟩
  obtain ⟨os, hos, hcs, hds⟩ := id hs
  have hTs : s.TypeIs (.ref sl) "slice" := ⟨os, hos, hcs⟩
  unfold getItem
  try with_reducible refine wpAny_holding ?_
  first | refine wpAny_bind (wpAny_pure ?_) | skip
  refine wpAny_bind (wpAny_sequenceKey ht'.typeIs (by decide) ?_)
  refine wpAny_bind (wpAny_callSpecial?_slot (name := Str.ofString "__getitem__") ht'.typeIs PyProof.Rows.slot_tuple_getitem
    (wpAny_call_entry PyProof.Rows.slot_tuple_getitem ht'.typeIs PyProof.Rows.entry_tuple_getitem ?_ (args_tuple_getitem _ _)))
  show wpAny _ _ (Builtin.Tuple.tupleItemsOf (.ref t) >>= _) _ _ s
  refine wpAny_bind (tupleItemsOf_ ht' ?_)
  refine wpAny_bind (wpAny_typeOf hTs ?_)
  rw [if_pos (by decide)]
  refine wpAny_bind (applied_to hs (Nat.le_of_lt hb) ?_)
  have hno : ¬ (((0 : Int) == 0 && (1 : Int) == 1 && b == items.size) = true) := by
    have : (b == items.size) = false := by rw [beq_eq_false_iff_ne]; omega
    rw [this]; simp
  show wpAny _ _ (if ((0 : Int) == 0 && (1 : Int) == 1 && b == items.size) = true then _ else _) _ _ s
  rw [if_neg hno, hys]
  first
    | exact wpAny_bind (m := Builtin.Tuple.tupleExact _) (wpAny_newObj_type (wpAny_pure ⟨_, rfl, wpAny_pure h⟩) hdrop)
    | exact wpAny_bind (m := Builtin.Tuple.tupleExact _) (wpAny_newObj_type (wpAny_bind (wpAny_pure (wpAny_pure ⟨_, rfl, wpAny_pure h⟩))) hdrop)
    | exact wpAny_bind (wpAny_bind (m := Builtin.Tuple.tupleExact _) (wpAny_newObj_type (wpAny_pure (wpAny_pure ⟨_, rfl, wpAny_pure h⟩)) hdrop))
    | exact wpAny_bind (wpAny_bind (m := Builtin.Tuple.tupleExact _) (wpAny_newObj_type (wpAny_pure ⟨_, rfl, wpAny_pure h⟩) hdrop))

/-- t[:b] of a tuple: the slice object, then the new tuple -/
theorem slice_to {value ub : Expr} {p pos : Pos} {Q : Value → Shared → Prop}
    (h : wpAny (model prog w) A (eval value env) (fun o s₁ => wpAny (model prog w) A (eval ub env) (fun ob s₂ => ∃ t items ys b u, o = .ref t ∧ ob = .int (b : Nat) u ∧ s₂.heap.IsTuple t items ∧ b < items.size ∧ b ≤ 1000 ∧
      ((List.range b).filterMap fun (k : Nat) => items[((0 : Int) + (k : Int) * 1).toNat]?).toArray = ys ∧
      ∀ h₃ T, Ext s₂.heap h₃ → s₂.heap.objs.size ≤ T → s₂.heap.objs.size ≤ h₃.objs.size → h₃.get? T = some { cls := .type "tuple", data := .seq ys } → Q (.ref T) { s₂ with heap := h₃ }) E s₁) E s) :
    wpAny (model prog w) A (eval (.Subscript value (.Slice none (some ub) none p) pos) env) Q E s := by
  refine sub_on (wpAny_mono h (fun o s₁ h₁ => wpAny_Slice ?_) fun _ _ e => e)
  rw [evalPart_none, evalPart_some]
  refine wpAny_pure (wpAny_mono h₁ (fun ob s₂ h₂ => ?_) fun _ _ e => e)
  obtain ⟨t, items, ys, b, u, rfl, rfl, ht, hb, hb', hys, hQ⟩ := h₂
  have ht' := isTuple_ext ht (Ext.push s₂.heap { cls := .type "slice", data := .fields #[.none, .int b u, .none] })
  refine wpAny_pure ⟨⟨_, rfl⟩, "tuple", _, PyProof.Rows.slot_tuple_getitem.lookup, ht'.typeIs, getItem_to ht' (Heap.IsSliceOf.new ..) hb hb' hys ?_⟩
  refine hQ _ _ ((Ext.push _ _).trans (Ext.push _ _)) ?_ ?_ (Heap.get?_push_size _ rfl)
  · rw [Heap.size_push]; exact Nat.le_succ _
  · rw [Heap.size_push, Heap.size_push]; exact Nat.le_add_right _ 2

/-- the end of a call: a new tuple -/
theorem Gives.tuple {g' : Heap} {s' : Shared} {Post : Heap → Value → Prop} {items : Array Value} (S : St Z g' s s') (G : Grown g s.heap.objs.size g') (hp : ∀ g'' T, Ext g' g'' → g''.IsTuple T items → Post g'' (.ref T)) :
    Gives Z g s Post (.ok (.ret (.ref s'.heap.objs.size))) { s' with heap := s'.heap.push { cls := .type "tuple", data := .seq items } } := by
  obtain ⟨g'', S₁, G₁, _, see⟩ := (S.push (tk := s'.toks) { cls := .type "tuple", data := .seq items }).see [] (fun _ h => nomatch h)
  have hT := see _ _ (Heap.get?_push_size _ rfl) (.inr S.size) (fun h => nomatch h)
  exact ⟨_, g'', rfl, Back.at S₁ (G.trans G₁ (Nat.le_refl _)) (hp g'' _ G₁.ext ⟨_, hT, rfl, 0, rfl⟩)⟩

/-- add_func_stats -/
theorem afs_spec {d1 d2 t1 t2 : Addr} {a1 a2 a3 a4 b1 b2 b3 b4 : Int} {u1 u2 u3 u4 v1 v2 v3 v4 : Tok} {c1 c2 : List (Int × Int)} {n : Nat} (Rm : Room A (n + 4)) (S : St Z g s s) (W : WF Z g)
    (hT1 : g.IsTuple t1 #[.int a1 u1, .int a2 u2, .int a3 u3, .int a4 u4, .ref d1]) (hT2 : g.IsTuple t2 #[.int b1 v1, .int b2 v2, .int b3 v3, .int b4 v4, .ref d2])
    (h1 : Cnt prog w g d1 c1) (h2 : Cnt prog w g d2 c2) (hsz : sysModules < s.heap.objs.size) :
    codeAny (model prog w) A (.call (.ref Z.fAfs) ⟨[.ref t1, .ref t2], []⟩)
      (Gives Z g s fun g' v => ∃ T d w1 w2 w3 w4, v = .ref T ∧ g'.IsTuple T #[.int (b1 + a1) w1, .int (b2 + a2) w2, .int (b3 + a3) w3, .int (b4 + a4) w4, .ref d] ∧ Cnt prog w g' d (c2.foldl addI c1)) s := by
  obtain ⟨cd, hF⟩ := W.nAfs
  refine call_fn (binds := [(Str.ofString "target", .ref t1), (Str.ofString "source", .ref t2)]) (n := n + 3) Rm S W hF (fun nm dc pm an ct => rfl) (by decide +kernel) (locs rfl) (fun L h₁ hL hns S₁ => ?_) rfl rfl rfl
  have gL : g.get? L = none := fresh_none S hL
  generalize hA : A.deeper (mkEnv dAfs L Z.fAfs (Str.ofString "add_func_stats") cd) = A'
  have Rm' : Room A' (n + 3) := hA ▸ Rm.deeper _
  generalize s.toks + [(Str.ofString "target", Value.ref t1), (Str.ofString "source", Value.ref t2)].length = tk at *
  refine wpAny_execs_cons (Assign_Tuple (ldL hns rfl (wpAny_assign_Tuple Rm'.hd (isTuple_ext hT2 S₁.sub) rfl rfl fun h₂ he₂ => ?_)))
  have e₂ : Ext h₁ h₂ := fun b o e => he₂ b o (Nat.ne_of_lt (Heap.lt_size e)) e
  have hns₂ := hns.keeps e₂
  have S₂ := S₁.keep (tk := tk) e₂ (Nat.le_trans hL (Nat.le_of_lt hns₂.lt))
  refine inOrder_cons (wpAny_assign_Name (stL S₂ hns₂ gL hL fun s₃ hns₃ _ S₃ => ?_))
  refine inOrder_cons (wpAny_assign_Name (stL S₃ hns₃ gL hL fun s₄ hns₄ _ S₄ => ?_))
  refine inOrder_cons (wpAny_assign_Name (stL S₄ hns₄ gL hL fun s₅ hns₅ _ S₅ => ?_))
  refine inOrder_cons (wpAny_assign_Name (stL S₅ hns₅ gL hL fun s₆ hns₆ _ S₆ => ?_))
  refine inOrder_cons (wpAny_assign_Name (stL S₆ hns₆ gL hL fun s₇ hns₇ _ S₇ => inOrder_nil ?_))
  clear hns₃ S₃ hns₄ S₄ hns₅ S₅ hns₆ S₆ e₂ he₂ hns₂ S₂ hns S₁
  refine wpAny_execs_cons (Assign_Tuple (ldL hns₇ rfl (wpAny_assign_Tuple Rm'.hd (isTuple_ext hT1 S₇.sub) rfl rfl fun h₂ he₂ => ?_)))
  have e₂ : Ext s₇.heap h₂ := fun b o e => he₂ b o (Nat.ne_of_lt (Heap.lt_size e)) e
  have hns₂ := hns₇.keeps e₂
  have S₂ := S₇.keep (tk := s₇.toks) e₂ (Nat.le_trans hL (Nat.le_of_lt hns₂.lt))
  refine inOrder_cons (wpAny_assign_Name (stL S₂ hns₂ gL hL fun s₃ hns₃ _ S₃ => ?_))
  refine inOrder_cons (wpAny_assign_Name (stL S₃ hns₃ gL hL fun s₄ hns₄ _ S₄ => ?_))
  refine inOrder_cons (wpAny_assign_Name (stL S₄ hns₄ gL hL fun s₅ hns₅ _ S₅ => ?_))
  refine inOrder_cons (wpAny_assign_Name (stL S₅ hns₅ gL hL fun s₆ hns₆ _ S₆ => ?_))
  refine inOrder_cons (wpAny_assign_Name (stL S₆ hns₆ gL hL fun s₈ hns₈ _ S₈ => inOrder_nil ?_))
  clear hns₃ S₃ hns₄ S₄ hns₅ S₅ hns₆ S₆ e₂ he₂ hns₂ S₂ hns₇ S₇
  refine wpAny_execs_cons (wpAny_Return_some (wpAny_Tuple ?_))
  refine wpAny_items_cons (wpAny_BinOp (ldL hns₈ rfl (ldL hns₈ rfl (add_int ?_))))
  refine wpAny_items_cons (wpAny_BinOp (ldL hns₈ rfl (ldL hns₈ rfl (add_int ?_))))
  refine wpAny_items_cons (wpAny_BinOp (ldL hns₈ rfl (ldL hns₈ rfl (add_int ?_))))
  refine wpAny_items_cons (wpAny_BinOp (ldL hns₈ rfl (ldL hns₈ rfl (add_int ?_))))
  dsimp only
  refine wpAny_items_cons (wpAny_Call_Name_kw (ldG (mg := Z.mg) (W.g.keeps S₈.sub) W.gAdd (callW W.nAdd (spliced_cons (ldL hns₈ rfl (spliced_cons (ldL hns₈ rfl (spliced_nil ⟨S₈.sub, ?_⟩))))))))
  have S₉ := S₈.tok (tk := s₈.toks + 1 + 1 + 1 + 1)
  refine call_mine (add_ints (n := n + 1) Rm' S₉.start W h1 h2 (Nat.lt_of_lt_of_le hsz S₉.size)) S₉ W.nAdd fun v g' s' B S' => ?_
  obtain ⟨d, rfl, hd, hc⟩ := B.post
  refine wpAny_items_nil ⟨len_le_line (by simp), ?_⟩
  have G' : Grown g s.heap.objs.size g' := ⟨B.ext, fun b hb => B.own b (Nat.lt_of_lt_of_le hb S₉.size)⟩
  refine Gives.tuple S' G' fun g'' T e ht => ⟨T, d, _, _, _, _, rfl, ht, ?_⟩
  obtain ⟨h0, xs, hD, r⟩ := hc
  exact ⟨h0, xs, hD.ext e, r⟩
end
end Mine
/-! M20 -/
namespace Mine
open PySem PySem.W PyProof.Rows PySem.Calls
set_option maxRecDepth 100000

def lineText (f : Str) (n : Int) (name : Str) : Str := f ++ Str.ofString ":" ++ Str.ofString (toString n) ++ Str.ofString "(" ++ name ++ Str.ofString ")"

set_option maxHeartbeats 4000000 in
theorem meets_line {b : Addr} {f name : Str} {n : Int} {t t1 t2 t3 : Tok} (hf : f.length ≤ 1000) (hn0 : 0 ≤ n) (hn1 : n < 10 ^ 10) (hname : name.length ≤ 1000) :
    Meets (Builtin.«str.__mod__» ⟨[.str (⟨#[37, 115, 58, 37, 100, 40, 37, 115, 41]⟩ : Str) t, .ref b], []⟩)
      (fun _ R s => IsTup s.heap b #[.str f t1, .int n t2, .str name t3] ∧ ∀ t' k, R (.ok (.ret (.str (f ++ Str.ofString ":" ++ Str.ofString (toString n) ++ Str.ofString "(" ++ name ++ Str.ofString ")") t'))) { s with toks := k }) := by
  kpt_run

theorem meets_brace (t u : Tok) : ∀ z : Str, z.length ≤ 1000000 → Meets (Builtin.«str.__mod__» ⟨[.str (⟨#[123, 37, 115, 125]⟩ : Str) t, .str z u], []⟩) (fun _ R s => ∀ t' k, R (.ok (.ret (.str (Str.ofString "{" ++ z ++ Str.ofString "}") t'))) { s with toks := k }) := by
  kpc_run_s
end Mine
/-! M21 -/
namespace Mine
open PySem PySem.W PyProof.Rows PySem.Calls
set_option maxRecDepth 100000

def stdText (f : Str) (k : Int) (name : Str) : Str :=
  if f == Str.ofString "~" && k == 0 then
    if Txt.startswith name (Str.ofString "<") && Txt.endswith name (Str.ofString ">") then Str.ofString "{" ++ Txt.slice name (some 1) (some (-1)) ++ Str.ofString "}" else name
  else f ++ Str.ofString ":" ++ Str.ofString (toString k) ++ Str.ofString "(" ++ name ++ Str.ofString ")"

section
variable {prog : Program} {w : World} {A : Around} {E : Value → Shared → Prop} {s : Shared} {Z : Zone} {g : Heap}

theorem mod_line {b : Addr} {f name : Str} {n : Int} {t t1 t2 t3 : Tok} {X : Str} {Q : Value → Shared → Prop} (hX : X = ⟨#[37, 115, 58, 37, 100, 40, 37, 115, 41]⟩) (hf : f.length ≤ 1000) (hn0 : 0 ≤ n) (hn1 : n < 10 ^ 10) (hname : name.length ≤ 1000)
    (ht : s.heap.IsTuple b #[.str f t1, .int n t2, .str name t3])
    (h : ∀ t' k, Q (.str (f ++ Str.ofString ":" ++ Str.ofString (toString n) ++ Str.ofString "(" ++ name ++ Str.ofString ")") t') { s with toks := k }) : wpAny (model prog w) A (binaryOp .Mod (.str X t) (.ref b)) Q E s := by
  subst hX
  have ht' : IsTup s.heap b _ := let ⟨o, ho, hc, n, hd⟩ := ht; ⟨o, ho, hc, n, hd⟩
  exact KPt.bin_left (T := "str") (U := "tuple") (op := .Mod) (by decide) (typeIs_str s _ t) ht.typeIs F.fills_str_mod KPt.fills_tuple F.slot_str_mod
    (call_meets F.slot_str_mod (typeIs_str s _ t) F.entry_str_mod (F.args_str_mod_2 _ _) (meets_line hf hn0 hn1 hname) ⟨ht', fun t' k => ⟨(fun e => nomatch e), h t' k⟩⟩)
theorem slice_length (x : Str) (a b : Option Int) : (Txt.slice x a b).length ≤ x.length := Txt.slice_le x a b

theorem cond_eq {c b : Bool} {P R : Prop} (h : c = b) (h' : if b = true then P else R) : if c = true then P else R := h ▸ h'

/-- func_std_string -/
theorem std_spec {fn : Addr} {f name : Str} {k : Int} {t1 t2 t3 : Tok} {n : Nat} (Rm : Room A (n + 2)) (S : St Z g s s) (W : WF Z g) (hT : g.IsTuple fn #[.str f t1, .int k t2, .str name t3])
    (hf : f.length ≤ 1000) (hn0 : 0 ≤ k) (hn1 : k < 10 ^ 10) (hname : name.length ≤ 1000) :
    codeAny (model prog w) A (.call (.ref Z.fStd) ⟨[.ref fn], []⟩) (Gives Z g s fun _ v => ∃ t, v = .str (stdText f k name) t) s := by
  obtain ⟨cd, hF⟩ := W.nStd
  refine call_fn (binds := [(Str.ofString "func_name", .ref fn)]) (n := n + 1) Rm S W hF (fun nm dc pm an ct => rfl) (by decide +kernel) (locs rfl) (fun L h₁ hL hns S₁ => ?_) rfl rfl rfl
  have gL : g.get? L = none := fresh_none S hL
  generalize hA : A.deeper (mkEnv dStd L Z.fStd (Str.ofString "func_std_string") cd) = A'
  have Rm' : Room A' (n + 1) := hA ▸ Rm.deeper _
  have hu : A'.units + 1 < cLine := by have := Rm'.unit; omega
  generalize s.toks + [(Str.ofString "func_name", Value.ref fn)].length = tk at *
  refine wpAny_execs_cons (wpAny_If (wpAny_isTrue_Compare1 (slice_to (ldL hns rfl (wpAny_Constant_int ⟨fn, _, _, 2, _, rfl, rfl, isTuple_ext hT S₁.sub, by show 2 < 3; decide, by decide, rfl, fun h₃ T e₃ hT3 hs₃ gT => ?_⟩)))))
  have S₃ := S₁.grown (tk := tk) e₃ hs₃
  have hns₃ := hns.keeps e₃
  refine wpAny_Tuple (wpAny_items_cons (wpAny_Constant_str (wpAny_items_cons (wpAny_Constant_int (wpAny_items_nil ⟨len_le_line (by simp), ?_⟩)))))
  dsimp only
  have ht : h₃.IsTuple T #[.str f t1, .int k t2] := ⟨_, gT, rfl, 0, rfl⟩
  refine SeqAt.eq_tupleAt (e := fun j => if j = 0 then f == Str.ofString "~" else k == 0) (isTuple_ext ht (Ext.push _ _)) ⟨_, Heap.get?_push_size _ rfl, rfl, 0, rfl⟩ (by omega) (fun j hj1 hj2 => ?_) (wpAny_truthy_bool ?_)
  · match j, hj1 with
    | 0, _ => exact SeqAt.EqAt.str_str _ _ _ _
    | 1, _ => exact SeqAt.EqAt.int_int _ _ _ _
  refine cond_eq (b := f == Str.ofString "~" && k == 0) ?_ ?_
  · show ((f == Str.ofString "~" && (k == 0 && true)) && true) = _
    simp
  have S₄ := S₃.push (tk := tk + 1 + 1 + 1) { cls := .type "tuple", data := .seq #[Value.str (Str.ofString "~") (tk + 1), .int 0 (tk + 1 + 1)] }
  have hns₄ := hns₃.push { cls := .type "tuple", data := .seq #[Value.str (Str.ofString "~") (tk + 1), .int 0 (tk + 1 + 1)] }
  dsimp only at S₄
  generalize h₃.push { cls := .type "tuple", data := .seq #[Value.str (Str.ofString "~") (tk + 1), .int 0 (tk + 1 + 1)] } = h₄ at *
  cases hb : (f == Str.ofString "~" && k == 0) with
  | true =>
    rw [if_pos rfl]
    have hs : stdText f k name = if Txt.startswith name (Str.ofString "<") && Txt.endswith name (Str.ofString ">") then Str.ofString "{" ++ Txt.slice name (some 1) (some (-1)) ++ Str.ofString "}" else name := by
      unfold stdText; rw [hb, if_pos rfl]
    rw [hs]
    refine wpAny_execs_cons (wpAny_Assign_Name (sub_on (ldL hns₄ rfl (wpAny_Constant_int ⟨⟨_, rfl⟩, item_tup (isTuple_ext hT S₄.sub) (j := 2) rfl rfl ?_⟩))))
    refine stL (S₄.tok) hns₄ gL hL fun s₅ hns₅ _ S₅ => ?_
    refine wpAny_execs_cons (wpAny_If (isTrue_and (wpAny_isTrue_value (Call_method1 rfl rfl rfl (ldL hns₅ rfl (SB.startswith (wpAny_Constant_str ⟨_, _, rfl, wpAny_truthy_bool ?_⟩)))))))
    cases h1 : Txt.startswith name (Str.ofString "<") with
    | false =>
      rw [Bool.false_and, if_neg Bool.false_ne_true, if_neg Bool.false_ne_true, if_neg Bool.false_ne_true]
      refine wpAny_execs_cons (wpAny_Return_some (ldL hns₅ rfl ?_))
      exact ⟨_, _, rfl, Back.of (S₅.tok (tk := _)) [] (fun _ h => nomatch h) ⟨_, rfl⟩⟩
    | true =>
      rw [if_pos rfl, Bool.true_and]
      refine isTrue_and (wpAny_isTrue_value (Call_method1 rfl rfl rfl (ldL hns₅ rfl (SB.endswith (wpAny_Constant_str ⟨_, _, rfl, wpAny_truthy_bool ?_⟩)))))
      cases h2 : Txt.endswith name (Str.ofString ">") with
      | false =>
        rw [if_neg Bool.false_ne_true, if_neg Bool.false_ne_true, if_neg Bool.false_ne_true]
        refine wpAny_execs_cons (wpAny_Return_some (ldL hns₅ rfl ?_))
        exact ⟨_, _, rfl, Back.of (S₅.tok (tk := _)) [] (fun _ h => nomatch h) ⟨_, rfl⟩⟩
      | true =>
        rw [if_pos rfl, if_pos rfl]
        refine isTrue_and_nil ?_
        rw [if_pos rfl]
        refine wpAny_execs_cons (wpAny_Return_some (wpAny_BinOp (wpAny_Constant_str (sub_on (ldL hns₅ rfl (wpAny_Slice ?_))))))
        rw [evalPart_some, evalPart_some]
        refine wpAny_Constant_int (wpAny_UnaryOp (wpAny_Constant_int (neg_int ?_)))
        rw [evalPart_none]
        refine wpAny_pure ⟨⟨_, rfl⟩, SBH.sliceItem_ss (P := fun h => Ext s₅.heap h ∧ s₅.heap.objs.size ≤ h.objs.size) (fun h ob ⟨e, z⟩ => ⟨e.trans (Ext.push _ _), by rw [Heap.size_push]; exact Nat.le_succ_of_le z⟩) ⟨Ext.refl _, Nat.le_refl _⟩ (fun h₆ t' k' hP => ?_) (by rw [sizeLine_eq]; omega)⟩
        refine KPc.mod_str (T := fun z => Str.ofString "{" ++ z ++ Str.ofString "}") (X' := ⟨#[123, 37, 115, 125]⟩) (by decide +kernel) (Nat.le_trans (slice_length _ _ _) (by omega)) (meets_brace _ _) fun t'' k'' => ?_
        exact ⟨_, _, rfl, Back.of (S₅.grown (tk := k'') hP.1 hP.2) [] (fun _ h => nomatch h) ⟨_, rfl⟩⟩
  | false =>
    rw [if_neg Bool.false_ne_true]
    have hs : stdText f k name = f ++ Str.ofString ":" ++ Str.ofString (toString k) ++ Str.ofString "(" ++ name ++ Str.ofString ")" := by
      unfold stdText; rw [hb, if_neg Bool.false_ne_true]
    rw [hs]
    refine wpAny_execs_cons (wpAny_Return_some (wpAny_BinOp (wpAny_Constant_str (ldL hns₄ rfl (mod_line (by decide +kernel) hf hn0 hn1 hname (isTuple_ext hT S₄.sub) fun t' u' => ?_)))))
    have S₅ := S₄.tok (tk := u')
    exact ⟨_, _, rfl, Back.of S₅ [] (fun _ h => nomatch h) ⟨t', rfl⟩⟩
end
end Mine
/-! M22 -/
namespace Mine
open PySem PySem.W PyProof.Rows PySem.Calls
set_option maxRecDepth 100000

/-! ### the plain law -/
section
variable {α : Type}
abbrev keysG (c : List (Int × α)) : List Int := c.map (·.1)
def getG (c : List (Int × α)) (k : Int) : Option α := (c.find? (fun p => decide (p.1 = k))).map (·.2)
def joinG (f : α → α → α) : Option α → Option α → Option α
  | some z, some x => some (f z x)
  | some z, none => some z
  | none, b => b

theorem getG_nil (k : Int) : getG ([] : List (Int × α)) k = none := rfl
theorem getG_cons (p : Int × α) (c : List (Int × α)) (k : Int) : getG (p :: c) k = if p.1 = k then some p.2 else getG c k := by
  unfold getG
  rw [List.find?_cons]
  by_cases h : p.1 = k <;> simp [h]
theorem getG_none {c : List (Int × α)} {k : Int} : getG c k = none ↔ k ∉ keysG c := by
  induction c with
  | nil => simp [getG_nil]
  | cons p r ih =>
    rw [getG_cons]
    by_cases h : p.1 = k
    · simp [h]
    · simp only [h, if_false, ih, List.map_cons, List.mem_cons, not_or]
      exact ⟨fun x => ⟨fun e => h e.symm, x⟩, fun x => x.2⟩
theorem getG_some {c : List (Int × α)} {k : Int} (h : k ∈ keysG c) : ∃ x, getG c k = some x := by
  cases q : getG c k with
  | none => exact absurd h (getG_none.mp q)
  | some x => exact ⟨x, rfl⟩
theorem getG_append (c e : List (Int × α)) (k : Int) : getG (c ++ e) k = (getG c k).or (getG e k) := by
  induction c with
  | nil => simp [getG_nil]
  | cons p r ih =>
    rw [List.cons_append, getG_cons, getG_cons, ih]
    by_cases h : p.1 = k <;> simp [h]
theorem getG_upd (c : List (Int × α)) (a k : Int) (F : α → α) : getG (c.map (fun q => if q.1 = a then (q.1, F q.2) else q)) k = (getG c k).map (fun z => if a = k then F z else z) := by
  induction c with
  | nil => rfl
  | cons p r ih =>
    rw [List.map_cons, getG_cons, getG_cons, ih]
    by_cases h : p.1 = a
    · rw [if_pos h]
      by_cases hk : p.1 = k
      · rw [if_pos hk, if_pos hk]
        simp [← h, hk]
      · rw [if_neg hk, if_neg hk]
    · rw [if_neg h]
      by_cases hk : p.1 = k
      · rw [if_pos hk, if_pos hk]
        have : ¬ a = k := fun e => h (hk.trans e.symm)
        simp [this]
      · rw [if_neg hk, if_neg hk]
theorem getG_addG (f : α → α → α) (c : List (Int × α)) (p : Int × α) (k : Int) : getG (addG f c p) k = if p.1 = k then joinG f (getG c k) (some p.2) else getG c k := by
  unfold addG
  by_cases hm : p.1 ∈ c.map (·.1)
  · rw [if_pos hm, getG_upd c p.1 k (fun z => f z p.2)]
    by_cases hk : p.1 = k
    · obtain ⟨x, hx⟩ := getG_some (hk ▸ hm)
      simp [hk, hx, joinG]
    · simp [hk]
  · rw [if_neg hm, getG_append, getG_cons, getG_nil]
    by_cases hk : p.1 = k
    · have : getG c k = none := getG_none.mpr (hk ▸ hm)
      simp [hk, this, joinG]
    · simp [hk]
theorem joinG_none (f : α → α → α) (a : Option α) : joinG f a none = a := by cases a <;> rfl
theorem getG_foldl (f : α → α → α) : ∀ (c2 c1 : List (Int × α)), (keysG c2).Nodup → ∀ k, getG (c2.foldl (addG f) c1) k = joinG f (getG c1 k) (getG c2 k)
  | [], c1, _, k => by rw [List.foldl_nil, getG_nil, joinG_none]
  | p :: r, c1, hn, k => by
    rw [keysG, List.map_cons, List.nodup_cons] at hn
    rw [List.foldl_cons, getG_foldl f r _ hn.2 k, getG_addG, getG_cons]
    by_cases hk : p.1 = k
    · have : getG r k = none := getG_none.mpr (hk ▸ hn.1)
      rw [if_pos hk, if_pos hk, this, joinG_none]
    · rw [if_neg hk, if_neg hk]
theorem keys_addG (f : α → α → α) (c : List (Int × α)) (p : Int × α) : keysG (addG f c p) = if p.1 ∈ keysG c then keysG c else keysG c ++ [p.1] := by
  unfold addG
  by_cases hm : p.1 ∈ keysG c
  · rw [if_pos hm, if_pos hm, keysG, List.map_map]
    refine List.map_congr_left fun q _ => ?_
    simp only [Function.comp]
    split <;> rfl
  · rw [if_neg hm, if_neg hm, keysG, List.map_append]; rfl
theorem keys_foldl (f : α → α → α) : ∀ (c2 c1 : List (Int × α)), (keysG c2).Nodup → keysG (c2.foldl (addG f) c1) = keysG c1 ++ (keysG c2).filter (fun k => decide (k ∉ keysG c1))
  | [], c1, _ => by simp
  | p :: r, c1, hn => by
    rw [keysG, List.map_cons, List.nodup_cons] at hn
    rw [List.foldl_cons, keys_foldl f r _ hn.2, keys_addG]
    by_cases hm : p.1 ∈ keysG c1
    · rw [if_pos hm]
      congr 1
      show _ = List.filter _ (p.1 :: keysG r)
      rw [List.filter_cons_of_neg (by simpa using hm)]
    · rw [if_neg hm, List.append_assoc]
      congr 1
      show _ = List.filter _ (p.1 :: keysG r)
      rw [List.filter_cons_of_pos (by simpa using hm)]
      show p.1 :: _ = _
      congr 1
      refine List.filter_congr fun k hk => ?_
      have : k ≠ p.1 := fun e => hn.1 (e ▸ hk)
      simp [this]
theorem mem_foldl (f : α → α → α) {c1 c2 : List (Int × α)} (hn : (keysG c2).Nodup) (k : Int) : k ∈ keysG (c2.foldl (addG f) c1) ↔ k ∈ keysG c1 ∨ k ∈ keysG c2 := by
  rw [keys_foldl f c2 c1 hn, List.mem_append, List.mem_filter]
  by_cases h : k ∈ keysG c1 <;> simp [h]
theorem nodup_foldl (f : α → α → α) {c1 c2 : List (Int × α)} (h1 : (keysG c1).Nodup) (hn : (keysG c2).Nodup) : (keysG (c2.foldl (addG f) c1)).Nodup := by
  rw [keys_foldl f c2 c1 hn, List.nodup_append]
  refine ⟨h1, hn.filter _, fun a ha b hb e => ?_⟩
  rw [List.mem_filter] at hb
  have : b ∉ keysG c1 := by simpa using hb.2
  exact this (e ▸ ha)
end

theorem getI_getG (c : List (Int × Int)) (k : Int) : getI c k = (getG c k).getD 0 := rfl
theorem addI_addG {c : List (Int × Int)} (hn : (keysG c).Nodup) (p : Int × Int) : addI c p = addG (fun a b => a + b) c p := by
  have := foldl_addI c [p] hn
  simpa using this.symm
theorem nodup_addI {c : List (Int × Int)} (hn : (keysG c).Nodup) (p : Int × Int) : (keysG (addI c p)).Nodup := by
  rw [addI_addG hn]
  have := nodup_foldl (fun a b : Int => a + b) (c2 := [p]) hn (by simp)
  simpa using this
theorem sumV_addI {c : List (Int × Int)} (hn : (keysG c).Nodup) (p : Int × Int) : sumV (addI c p) = sumV c + p.2 := by
  rw [addI_addG hn]
  unfold addG
  by_cases hm : p.1 ∈ c.map (·.1)
  · rw [if_pos hm]
    induction c with
    | nil => cases hm
    | cons q r ih =>
      rw [keysG, List.map_cons, List.nodup_cons] at hn
      by_cases e : q.1 = p.1
      · have hr : r.map (fun q => if q.1 = p.1 then (q.1, q.2 + p.2) else q) = r := by
          conv => rhs; rw [← List.map_id r]
          refine List.map_congr_left fun z hz => ?_
          have : z.1 ≠ p.1 := fun e' => hn.1 (List.mem_map.mpr ⟨z, hz, e'.trans e.symm⟩)
          simp [this]
        rw [List.map_cons, hr, if_pos e]
        simp only [sumV, List.map_cons, List.sum_cons]
        omega
      · have hm' : p.1 ∈ r.map (·.1) := by
          rw [List.map_cons, List.mem_cons] at hm
          rcases hm with h | h
          · exact absurd h.symm e
          · exact h
        have := ih hn.2 hm'
        rw [List.map_cons, if_neg e]
        simp only [sumV, List.map_cons, List.sum_cons] at this ⊢
        omega
  · rw [if_neg hm]
    simp [sumV]
theorem fold_addI (ps : List (Int × Int)) : ∀ c : List (Int × Int), (keysG c).Nodup → (keysG (ps.foldl addI c)).Nodup ∧ sumV (ps.foldl addI c) = sumV c + (ps.map (·.2)).sum := by
  induction ps with
  | nil => intro c hn; exact ⟨hn, by simp⟩
  | cons p r ih =>
    intro c hn
    obtain ⟨a, b⟩ := ih (addI c p) (nodup_addI hn p)
    refine ⟨a, ?_⟩
    rw [List.foldl_cons, b, sumV_addI hn, List.map_cons, List.sum_cons]
    omega
theorem sumsI_eq (ns : List Int) : sumsI ns = (ns.map fun n => (n.fmod 5, n.fdiv 5)).foldl addI [] := by
  unfold sumsI
  rw [List.foldl_map]
theorem sumsI_nodup (ns : List Int) : (keysG (sumsI ns)).Nodup := by
  rw [sumsI_eq]; exact (fold_addI _ [] (by simp)).1
theorem sumsI_sum (ns : List Int) : sumV (sumsI ns) = (ns.map (·.fdiv 5)).sum := by
  rw [sumsI_eq, (fold_addI _ [] (by simp)).2, List.map_map]
  show 0 + (List.map (fun n => n.fdiv 5) ns).sum = _
  rw [Int.zero_add]

/-- each third number -/
def pick (j : Nat) (ns : List Int) : List Int := ((List.range ns.length).filter fun k => k % 3 == j).map fun k => ns[k]?.getD 0
theorem sum_parts (F : Nat → Int) : ∀ l : List Nat, (l.map F).sum = ((l.filter fun k => k % 3 == 0).map F).sum + ((l.filter fun k => k % 3 == 1).map F).sum + ((l.filter fun k => k % 3 == 2).map F).sum
  | [] => by simp
  | k :: r => by
    have ih := sum_parts F r
    have : k % 3 = 0 ∨ k % 3 = 1 ∨ k % 3 = 2 := by omega
    rcases this with h | h | h <;> simp [h, ih] <;> omega
theorem pick_sum (ns : List Int) : ((pick 0 ns).map (·.fdiv 5)).sum + ((pick 1 ns).map (·.fdiv 5)).sum + ((pick 2 ns).map (·.fdiv 5)).sum = (ns.map (·.fdiv 5)).sum := by
  have e : ns.map (·.fdiv 5) = (List.range ns.length).map fun k => (ns[k]?.getD 0).fdiv 5 := by
    refine List.ext_getElem (by simp) fun i h1 h2 => ?_
    have : i < ns.length := by simpa using h1
    simp [this]
  rw [e, sum_parts]
  unfold pick
  simp only [List.map_map]
  rfl
end Mine
/-! M23 -/
namespace Mine
open PySem PySem.W PyProof.Rows PySem.Calls
set_option maxRecDepth 100000

def stmtL (i : Nat) : Stmt := nth (bodyOf dLaw) i
def valOf : Stmt → Expr
  | .Assign _ e _ => e
  | _ => .Constant .none 0 ⟨0, 0, 0, 0⟩
def eltOf : Expr → Expr
  | .ListComp e _ _ _ => e
  | e => e
def scC : Expr → Scope
  | .ListComp _ _ sc _ => sc
  | _ => { kind := .function, names := [], isGenerator := false, isCoroutine := false }
def arg0 : Expr → Expr
  | .Call _ (e :: _) _ _ => e
  | e => e
def rowsE : Expr := valOf (stmtL 0)
def innerE : Expr := arg0 (eltOf rowsE)
abbrev lawS : Str := Str.ofString "law"
abbrev lawEnv (L f : Addr) (cd : Value) : Env := mkEnvC dLaw L f lawS cd
def rowsEnv (L f : Addr) (cd : Value) (C : Addr) : Env := compEnvC (scC rowsE) [(Str.ofString "j", C + 1), (Str.ofString "script", L + 1)] C (lawEnv L f cd)

theorem IntsAre.snoc {vs : List Value} {ns : List Int} {v : Value} {n : Int} {t : Tok} (h : IntsAre vs ns) (hv : v = .int n t) : IntsAre (vs ++ [v]) (ns ++ [n]) := by
  induction h with
  | nil => subst hv; exact .cons n t .nil
  | cons k u r ih => exact .cons k u ih

def pickTo (j : Nat) (ns : List Int) (i : Nat) : List Int := ((List.range i).filter fun k => k % 3 == j).map fun k => ns[k]?.getD 0
theorem pickTo_all (j : Nat) (ns : List Int) : pickTo j ns ns.length = pick j ns := rfl
theorem pickTo_succ (j : Nat) (ns : List Int) (i : Nat) : pickTo j ns (i + 1) = if i % 3 == j then pickTo j ns i ++ [ns[i]?.getD 0] else pickTo j ns i := by
  unfold pickTo
  rw [List.range_succ, List.filter_append, List.map_append]
  cases h : (i % 3 == j) <;> simp [h]
theorem fmod3 (i j : Nat) : (((i : Int)).fmod 3 == (j : Int)) = (i % 3 == j) := by
  have : ((i : Int)).fmod 3 = ((i % 3 : Nat) : Int) := by
    rw [Int.fmod_eq_emod_of_nonneg _ (by decide)]; rfl
  rw [this]
  rcases Nat.decEq (i % 3) j with h | h
  · rw [beq_eq_false_iff_ne.mpr h, beq_eq_false_iff_ne]
    omega
  · rw [h]; simp
theorem item_list {prog : Program} {w : World} {A : Around} {E : Value → Shared → Prop} {s : Shared} {l : Addr} {vs : List Value} {k : Int} {u : Tok} {x : Value} {Q : Value → Shared → Prop} (hl : s.heap.IsList l vs.toArray) (h0 : 0 ≤ k) (hfit : k < 2 ^ 63) (hx : vs[k.toNat]? = some x) (h : Q x s) :
    ItemOn (model prog w) A E (.ref l) (.int k u) Q s :=
  ⟨"list", _, list_getitem_lookup, hl.typeIs, wpAny_getItem_list hl h0 hfit (by simpa using hx) h⟩

section
variable {prog : Program} {w : World} {A : Around} {E : Value → Shared → Prop} {s : Shared} {Z : Zone} {g : Heap}

/-- [script[k] for k in range(len(script)) if k % 3 == j] -/
theorem inner_spec {s₀ : Shared} {L f C sc : Addr} {cd : Value} {vs : List Value} {ns : List Int} {j : Nat} {tj : Tok} {n : Nat} {Q : Value → Shared → Prop} (Rm : Room A n) (S : St Z g s₀ s) (W : WF Z g) (hl : g.IsList sc vs.toArray) (hi : IntsAre vs ns) (hlen : ns.length ≤ 63)
    (hc0 : s.heap.IsCell (L + 1) (some (.ref sc))) (hj : s.heap.IsCell (C + 1) (some (.int j tj)))
    (h : ∀ s' D ws, St Z g s₀ s' → (∀ b o, s.heap.get? b = some o → s'.heap.get? b = some o) → s.heap.objs.size ≤ s'.heap.objs.size → s.heap.objs.size ≤ D → s'.heap.PlainList D ws.toArray → IntsAre ws (pick j ns) → Q (.ref D) s') :
    wpAny (model prog w) A (eval innerE (rowsEnv L f cd C)) Q E s := by
  have hlen' : vs.length = ns.length := hi.length
  refine lcomp (cl := [(Str.ofString "script", L + 1), (Str.ofString "j", C + 1)]) rfl rfl (by decide) ?_
  refine wpAny_Call_Name_kw (ldBW W S.sub (by decide) rfl ?_)
  refine PySem.callWith_type rfl (evalArgs_plain (spliced_cons ?_))
  refine wpAny_Call_Name_kw (ldBW W S.sub (by decide) rfl ?_)
  refine callWith_builtin rfl (evalArgs_plain (spliced_cons (ldC hc0 (spliced_nil ?_))))
  refine call_len_list (isList_ext hl S.sub) (by simp [hlen']; omega) (spliced_nil ?_)
  refine call_range_1 ?_
  refine wpAny_pyIter_range (IsRange.new _ _ _ _ _ _ _) (small_one (by decide) (by decide) (by omega) (by simp [hlen']; omega)) fun D C' h₃ tk₃ CS => ?_
  dsimp only at CS
  have e₁ : Ext s.heap (s.heap.push { cls := .type "range", data := .fields #[.int 0 (s.toks + 1 + 1), .int (vs.toArray.size : Nat) (s.toks + 1), .int 1 (s.toks + 1 + 1 + 1)] }) := Ext.push _ _
  have z₁ : s.heap.objs.size < (s.heap.push { cls := .type "range", data := .fields #[.int 0 (s.toks + 1 + 1), .int (vs.toArray.size : Nat) (s.toks + 1), .int 1 (s.toks + 1 + 1 + 1)] }).objs.size := by rw [Heap.size_push]; exact Nat.lt_succ_self _
  generalize s.heap.push { cls := .type "range", data := .fields #[.int 0 (s.toks + 1 + 1), .int (vs.toArray.size : Nat) (s.toks + 1), .int 1 (s.toks + 1 + 1 + 1)] } = h₁ at *
  have e₃ : Ext s.heap h₃ := e₁.trans ((Ext.push h₁ _).trans CS.ext)
  have hrs : Builtin.Range.rangeSize 0 (vs.toArray.size : Nat) 1 = ((ns.length : Nat) : Int) := by
    rw [rangeSize_one, List.size_toArray, hlen']
    split <;> omega
  have hit₃ : IsRangeIter h₃ h₁.objs.size 0 ((ns.length : Nat) : Int) 1 := by
    have := CS.ext _ _ (Heap.get?_push_size _ rfl)
    rw [hrs] at this
    exact this
  have hitD : h₁.objs.size < D := by have := CS.Dn; rw [Heap.size_push] at this; exact this
  have hDC := CS.DC
  have hss : s.heap.objs.size ≤ h₁.objs.size := Nat.le_of_lt z₁
  have S₃ := S.grown (tk := tk₃) e₃ (Nat.le_of_lt (Nat.lt_trans (Nat.lt_of_le_of_lt hss hitD) (Nat.lt_trans hDC CS.size)))
  have hns₃ := CS.ns
  have hl₃ := CS.list
  have old : ∀ b o, s.heap.get? b = some o → b < h₁.objs.size := fun b o e => Nat.lt_of_lt_of_le (Heap.lt_size e) hss
  clear CS
  generalize h₁.objs.size = it at *
  refine ⟨fun E' Q' hq => wpAny_pyIter_rangeiter hit₃ hq, ?_⟩
  have fr : ∀ b, s.heap.objs.size ≤ b → g.get? b = none ∧ s₀.heap.objs.size ≤ b := fun b hb => ⟨fresh_none S hb, Nat.le_trans S.size hb⟩
  have fit := fr it hss
  have fD := fr D (Nat.le_trans hss (Nat.le_of_lt hitD))
  have fC := fr C' (Nat.le_trans hss (Nat.le_of_lt (Nat.lt_trans hitD hDC)))
  have hCi : C' ≠ it := Nat.ne_of_gt (Nat.lt_trans hitD hDC)
  have hDi : D ≠ it := Nat.ne_of_gt hitD
  have hDC' : D ≠ C' := Nat.ne_of_lt hDC
  refine codeAny_compLoop_tests (fun k s' => ∃ i m ws, k = ns.length - i ∧ i ≤ ns.length ∧ St Z g s₀ s' ∧ (∀ b o, s.heap.get? b = some o → s'.heap.get? b = some o) ∧ s'.heap.Ns C' m ∧ IsRangeIter s'.heap it ((i : Nat) : Int) (((ns.length : Nat) : Int) - (i : Nat)) 1 ∧
    s'.heap.PlainList D ws.toArray ∧ IntsAre ws (pickTo j ns i)) ?_ ns.length
    ⟨0, _, [], rfl, Nat.zero_le _, S₃, e₃, hns₃, by simpa using hit₃, hl₃, .nil⟩
  clear S₃ e₃ hns₃ hit₃ hl₃
  rintro k s' ⟨i, m, ws, rfl, hile, S', hk', hns', hit, hlD, hws⟩
  by_cases hlt : i < ns.length
  · refine wpAny_pyNext_range_item hit (by omega) fun h₅ hit₅ hs₅ => ?_
    have S₅ := S'.same (tk := s'.toks + 1) fit.1 fit.2 hs₅
    have hns₅ := hns'.sameBut hs₅ hCi
    refine wpAny_assign_Name (stL S₅ hns₅ fC.1 fC.2 fun s₆ hns₆ hs₆ S₆ => ?_)
    have hit₆ : IsRangeIter s₆.heap it ((i : Nat) + 1 : Int) (((ns.length : Nat) : Int) - (i : Nat) - 1) 1 := hs₆.extBut _ _ (Ne.symm hCi) hit₅
    have hl₆ := (hlD.extBut hs₅.extBut hDi).extBut hs₆.extBut hDC'
    have hk₆ : ∀ b o, s.heap.get? b = some o → s₆.heap.get? b = some o := fun b o e =>
      hs₆.extBut _ _ (Nat.ne_of_lt (Nat.lt_trans (old b o e) (Nat.lt_trans hitD hDC))) (hs₅.extBut _ _ (Nat.ne_of_lt (old b o e)) (hk' b o e))
    have hj₆ := isCell_kept hj fun o e => hk₆ _ o e
    have hc₆ := isCell_kept hc0 fun o e => hk₆ _ o e
    refine wpAny_tests_one (wpAny_isTrue_Compare1 (wpAny_BinOp (ldL hns₆ rfl (wpAny_Constant_int (mod_int' (by decide) ?_)))))
    refine ldC hj₆ (eq_int (wpAny_truthy_bool ?_))
    have hit₇ : IsRangeIter s₆.heap it (((i + 1 : Nat) : Nat) : Int) (((ns.length : Nat) : Int) - ((i + 1 : Nat) : Nat)) 1 := by
      have e1 : (((i + 1 : Nat) : Nat) : Int) = (i : Nat) + 1 := by omega
      have e2 : (((ns.length : Nat) : Int) - ((i + 1 : Nat) : Nat)) = ((ns.length : Nat) : Int) - (i : Nat) - 1 := by omega
      rw [e2, e1]; exact hit₆
    rw [fmod3]
    cases hq : (i % 3 == j) with
    | false =>
      rw [if_neg Bool.false_ne_true]
      exact ⟨ns.length - (i + 1), by omega, i + 1, _, ws, rfl, hlt, S₆.tok, hk₆, hns₆, hit₇, hl₆, by rw [pickTo_succ, hq]; exact hws⟩
    | true =>
      rw [if_pos rfl]
      obtain ⟨tn, hvn⟩ := intsAre_get hi (List.getElem?_eq_getElem hlt)
      refine sub_on (ldC hc₆ (ldL hns₆ rfl ⟨⟨_, rfl⟩, item_list (x := .int ns[i] tn) (isList_ext hl S₆.sub) (by omega) (by omega) (by simpa using hvn) ?_⟩))
      refine wpAny_list_append_plain hl₆ (fun h₈ hl₈ hs₈ => ?_) ?_
      · refine ⟨ns.length - (i + 1), by omega, i + 1, _, ws ++ [.int ns[i] tn], rfl, hlt, S₆.same fD.1 fD.2 hs₈, fun b o e => hs₈.extBut _ _ (Nat.ne_of_lt (Nat.lt_trans (old b o e) hitD)) (hk₆ b o e), hns₆.sameBut hs₈ (Ne.symm hDC'), hs₈.extBut _ _ (Ne.symm hDi) hit₇, ?_, ?_⟩
        · simpa using hl₈
        · rw [pickTo_succ, hq, if_pos rfl, List.getElem?_eq_getElem hlt]
          exact IntsAre.snoc hws rfl
      · have h1 := hws.length
        have h2 : (pickTo j ns i).length ≤ i := by
          unfold pickTo
          rw [List.length_map]
          exact Nat.le_trans (List.length_filter_le _ _) (by simp)
        rw [sizeLine_eq, List.size_toArray, h1]; omega
  · have hin : i = ns.length := by omega
    refine wpAny_pyNext_range_end Rm.hd hit (by omega) fun h₅ he => ?_
    have hns₅ := hns'.extBut he hCi
    refine ⟨rfl, _, hns₅, fun h₆ hs₆ => ?_⟩
    have S₅ := S'.but (tk := s'.toks) it fit.1 fit.2 he (Nat.le_trans fC.2 (Nat.le_of_lt hns₅.lt))
    have S₆ := S₅.same (tk := s'.toks) fC.1 fC.2 hs₆
    have hk₆ : ∀ b o, s.heap.get? b = some o → h₆.get? b = some o := fun b o e =>
      hs₆.extBut _ _ (Nat.ne_of_lt (Nat.lt_trans (old b o e) (Nat.lt_trans hitD hDC))) (he _ _ (Nat.ne_of_lt (old b o e)) (hk' b o e))
    have hC₆ : C' < h₆.objs.size := by rw [hs₆.1]; exact hns₅.lt
    rw [hin, pickTo_all] at hws
    exact h _ D ws S₆ hk₆ (Nat.le_of_lt (Nat.lt_trans (Nat.lt_of_le_of_lt hss hitD) (Nat.lt_trans hDC hC₆))) (Nat.le_trans hss (Nat.le_of_lt hitD)) ((hlD.extBut he hDi).extBut hs₆.extBut hDC') hws
end
end Mine
/-! M24 -/
namespace Mine
open PySem PySem.W PyProof.Rows PySem.Calls
set_option maxRecDepth 100000

abbrev lawOwn (L : Addr) : List Addr := [L, L + 1, L + 2, L + 3]
/-- within the law: its frame and cells -/
structure Lw (Z : Zone) (s₀ : Shared) (L sc : Addr) (k1 k2 : Option Value) (g : Heap) (s : Shared) (m : Str → Option Value) : Prop where
  st : St Z g s₀ s
  W : WF Z g
  ns : s.heap.Ns L m
  Ln : s₀.heap.objs.size ≤ L
  gn : ∀ a ∈ lawOwn L, g.get? a = none
  c0 : s.heap.IsCell (L + 1) (some (.ref sc))
  c1 : s.heap.IsCell (L + 2) k1
  c2 : s.heap.IsCell (L + 3) k2

section
variable {Z : Zone} {s₀ s s' : Shared} {L sc : Addr} {k1 k2 : Option Value} {g g' : Heap} {m : Str → Option Value}
theorem Lw.to (X : Lw Z s₀ L sc k1 k2 g s m) (S' : St Z g' s₀ s') (e : Ext g g') (gn : ∀ a ∈ lawOwn L, g'.get? a = none) (hk : ∀ b ∈ lawOwn L, ∀ o, s.heap.get? b = some o → s'.heap.get? b = some o) : Lw Z s₀ L sc k1 k2 g' s' m where
  st := S'
  W := X.W.ext e
  ns := X.ns.at' (hk L (by simp))
  Ln := X.Ln
  gn := gn
  c0 := isCell_kept X.c0 (hk _ (by simp))
  c1 := isCell_kept X.c1 (hk _ (by simp))
  c2 := isCell_kept X.c2 (hk _ (by simp))
theorem Lw.size (X : Lw Z s₀ L sc k1 k2 g s m) : L + 3 < s.heap.objs.size := X.c2.lt
theorem Lw.apart (X : Lw Z s₀ L sc k1 k2 g s m) {a : Addr} (h : s.heap.objs.size ≤ a) : a ∉ lawOwn L := fun hm => by
  have := X.size
  simp only [List.mem_cons, List.not_mem_nil, or_false] at hm
  rcases hm with rfl | rfl | rfl | rfl
  · exact absurd (Nat.lt_of_lt_of_le (Nat.lt_of_le_of_lt (Nat.le_add_right _ 3) this) h) (Nat.lt_irrefl _)
  · exact absurd (Nat.lt_of_lt_of_le (Nat.lt_of_le_of_lt (Nat.add_le_add_left (by decide) L) this) h) (Nat.lt_irrefl _)
  · exact absurd (Nat.lt_of_lt_of_le (Nat.lt_of_le_of_lt (Nat.add_le_add_left (by decide) L) this) h) (Nat.lt_irrefl _)
  · exact absurd (Nat.lt_of_lt_of_le this h) (Nat.lt_irrefl _)
theorem Lw.low (X : Lw Z s₀ L sc k1 k2 g s m) {a : Addr} (h : a ∈ lawOwn L) : a < s.heap.objs.size := by
  rcases Nat.lt_or_ge a s.heap.objs.size with h' | h'
  · exact h'
  · exact absurd h (X.apart h')
theorem Lw.notP (X : Lw Z s₀ L sc k1 k2 g s m) {a : Addr} (h : a ∈ lawOwn L) : a ≠ Z.P := by
  have hP := X.st.tab₀.2
  have hL := X.Ln
  simp only [List.mem_cons, List.not_mem_nil, or_false] at h
  rcases h with rfl | rfl | rfl | rfl
  · exact Nat.ne_of_gt (Nat.lt_of_lt_of_le hP hL)
  · exact Nat.ne_of_gt (Nat.lt_of_lt_of_le hP (Nat.le_trans hL (Nat.le_add_right _ _)))
  · exact Nat.ne_of_gt (Nat.lt_of_lt_of_le hP (Nat.le_trans hL (Nat.le_add_right _ _)))
  · exact Nat.ne_of_gt (Nat.lt_of_lt_of_le hP (Nat.le_trans hL (Nat.le_add_right _ _)))
theorem Lw.grown (X : Lw Z s₀ L sc k1 k2 g s m) {h' : Heap} {tk : Nat} (e : Ext s.heap h') : Lw Z s₀ L sc k1 k2 g { s with heap := h', toks := tk } m :=
  X.to (X.st.keep e (Nat.le_trans X.Ln (Nat.le_of_lt (X.ns.keeps e).lt))) (Ext.refl _) X.gn fun b _ o h => e b o h
theorem Lw.tok (X : Lw Z s₀ L sc k1 k2 g s m) {tk : Nat} : Lw Z s₀ L sc k1 k2 g { s with toks := tk } m := X.grown (Ext.refl _)
theorem Lw.tmp (X : Lw Z s₀ L sc k1 k2 g s m) {h' : Heap} {tk : Nat} {a : Addr} (ha : g.get? a = none) (hn : s₀.heap.objs.size ≤ a) (hna : a ∉ lawOwn L) (hk : ∀ b o, b ≠ a → s.heap.get? b = some o → h'.get? b = some o) : Lw Z s₀ L sc k1 k2 g { s with heap := h', toks := tk } m :=
  X.to (X.st.but a ha hn hk (Nat.le_trans X.Ln (Nat.le_of_lt (X.ns.at' fun o e => hk L o (fun h => hna (by rw [← h]; simp)) e).lt))) (Ext.refl _) X.gn fun b hb o e => hk b o (fun h => hna (h ▸ hb)) e
/-- a call came back -/
theorem Lw.back {Post : Heap → Value → Prop} {v : Value} (X : Lw Z s₀ L sc k1 k2 g s m) (B : Back Z g s Post v s' g') : Lw Z s₀ L sc k1 k2 g' s' m :=
  X.to (X.st.trans B.st) B.ext (fun a ha => by rw [B.own a (X.low ha)]; exact X.gn a ha) fun b hb o e => B.st.ext b o (X.notP hb) e
/-- what is new is seen -/
theorem Lw.see (X : Lw Z s₀ L sc k1 k2 g s m) (own : List Addr) (ho : ∀ a ∈ own, g.get? a = none) :
    ∃ g', Lw Z s₀ L sc k1 k2 g' s m ∧ Ext g g' ∧ (∀ a ∈ own, g'.get? a = none) ∧ ∀ b o, s.heap.get? b = some o → s₀.heap.objs.size ≤ b → b ∉ lawOwn L → b ∉ own → g'.get? b = some o := by
  obtain ⟨g', S', G, gn, see⟩ := X.st.see (lawOwn L ++ own) fun a ha => by
    rcases List.mem_append.mp ha with h | h
    · exact X.gn a h
    · exact ho a h
  refine ⟨g', X.to S' G.ext (fun a ha => gn a (List.mem_append_left _ ha)) (fun _ _ _ e => e), G.ext, fun a ha => gn a (List.mem_append_right _ ha), fun b o e hs h1 h2 => see b o e (.inr hs) fun hm => ?_⟩
  rcases List.mem_append.mp hm with h | h
  · exact h1 h
  · exact h2 h
end

section
variable {prog : Program} {w : World} {A : Around} {E : Value → Shared → Prop} {s₀ s : Shared} {Z : Zone} {g : Heap} {L sc f : Addr} {cd : Value} {k1 k2 : Option Value} {m : Str → Option Value}

theorem Cnt.ext {prog : Program} {w : World} {h h' : Heap} {d : Addr} {c : List (Int × Int)} (x : Cnt prog w h d c) (e : Ext h h') : Cnt prog w h' d c := let ⟨h0, xs, hD, r⟩ := x; ⟨h0, xs, hD.ext e, r⟩
theorem stW {x : Str} {v : Value} {Q : Unit → Shared → Prop} (X : Lw Z s₀ L sc k1 k2 g s m) (h : ∀ s', Lw Z s₀ L sc k1 k2 g s' (fun y => if y = x then some v else m y) → Heap.SameBut L s.heap s'.heap → Q () s')
    (hl : (lawEnv L f cd).kindOf x = some .local := by rfl) : wpAny (model prog w) A (storeName (lawEnv L f cd) x v) Q E s := by
  refine stL X.st X.ns (X.gn L (by simp)) X.Ln (fun s' hns hs S' => h s' ⟨S', X.W, hns, X.Ln, X.gn, ?_, ?_, ?_⟩ hs) hl rfl
  · exact X.c0.sameBut hs (Nat.ne_of_gt (Nat.lt_succ_self L))
  · exact X.c1.sameBut hs (Nat.ne_of_gt (Nat.lt_add_of_pos_right (by decide)))
  · exact X.c2.sameBut hs (Nat.ne_of_gt (Nat.lt_add_of_pos_right (by decide)))

/-- rows = [..] -/
theorem law_rows {vs : List Value} {ns : List Int} {n : Nat} {Q : Flow → Shared → Prop} (Rm : Room A (n + 2)) (X : Lw Z s₀ L sc none none g s m) (hl : g.IsList sc vs.toArray) (hi : IntsAre vs ns) (hlen : ns.length ≤ 63) (hsz : sysModules < s₀.heap.objs.size)
    (h : ∀ g' s' r d1 d2 d3, Lw Z s₀ L sc none none g' s' (fun y => if y = Str.ofString "rows" then some (.ref r) else m y) → Ext g g' → Cnt prog w g' d1 (sumsI (pick 0 ns)) → Cnt prog w g' d2 (sumsI (pick 1 ns)) → Cnt prog w g' d3 (sumsI (pick 2 ns)) →
      g'.IsList r #[.ref d1, .ref d2, .ref d3] → Q .next s') :
    wpAny (model prog w) A (exec (stmtL 0) (lawEnv L f cd)) Q E s := by
  refine lcomp_assign (cl := [(Str.ofString "script", L + 1)]) rfl rfl rfl (by decide) ?_
  refine wpAny_Call_Name_kw (ldBW X.W X.st.sub (by decide) rfl ?_)
  refine PySem.callWith_type rfl (evalArgs_plain (spliced_cons (wpAny_Constant_int (k := 0) (pos := ⟨0, 0, 0, 0⟩) (spliced_nil ?_))))
  refine call_range_1 ?_
  refine wpAny_pyIter_range (IsRange.new _ _ _ _ _ _ _) (small_one (by decide) (by decide) (by decide) (by decide)) fun D C h₃ tk₃ CS => ?_
  dsimp only at CS
  have e₁ : Ext s.heap (s.heap.push { cls := .type "range", data := .fields #[.int 0 (s.toks + 1), .int 3 s.toks, .int 1 (s.toks + 1 + 1)] }) := Ext.push _ _
  have z₁ : s.heap.objs.size < (s.heap.push { cls := .type "range", data := .fields #[.int 0 (s.toks + 1), .int 3 s.toks, .int 1 (s.toks + 1 + 1)] }).objs.size := by rw [Heap.size_push]; exact Nat.lt_succ_self _
  generalize s.heap.push { cls := .type "range", data := .fields #[.int 0 (s.toks + 1), .int 3 s.toks, .int 1 (s.toks + 1 + 1)] } = h₁ at *
  have e₃ : Ext s.heap h₃ := e₁.trans ((Ext.push h₁ _).trans CS.ext)
  have hit₃ : IsRangeIter h₃ h₁.objs.size 0 3 1 := CS.ext _ _ (Heap.get?_push_size _ rfl)
  have hitD : h₁.objs.size < D := by have := CS.Dn; rw [Heap.size_push] at this; exact this
  have hDC := CS.DC
  have hss : s.heap.objs.size ≤ h₁.objs.size := Nat.le_of_lt z₁
  have X₃ := X.grown (tk := tk₃) e₃
  have hns₃ := CS.ns
  have hl₃ := CS.list
  have hj₃ : h₃.IsCell (C + 1) none := by
    rcases CS.cells (Str.ofString "j") (C + 1) List.mem_cons_self with h | h
    · exact absurd (Prod.mk.inj (List.mem_singleton.mp h)).1 (by decide)
    · exact h.1
  clear CS
  generalize h₁.objs.size = it at *
  refine ⟨fun E' Q' hq => wpAny_pyIter_rangeiter hit₃ hq, ?_⟩
  have fr : ∀ b, s.heap.objs.size ≤ b → g.get? b = none ∧ s₀.heap.objs.size ≤ b ∧ b ∉ lawOwn L := fun b hb => ⟨fresh_none X.st hb, Nat.le_trans X.st.size hb, X.apart hb⟩
  have hDn : s.heap.objs.size ≤ D := Nat.le_trans hss (Nat.le_of_lt hitD)
  have hCn : s.heap.objs.size ≤ C := Nat.le_trans hDn (Nat.le_of_lt hDC)
  have fit := fr it hss
  have fD := fr D hDn
  have fC := fr C hCn
  have fJ := fr (C + 1) (Nat.le_succ_of_le hCn)
  have hCi : C ≠ it := Nat.ne_of_gt (Nat.lt_trans hitD hDC)
  have hDi : D ≠ it := Nat.ne_of_gt hitD
  have hDC' : D ≠ C := Nat.ne_of_lt hDC
  have hJi : C + 1 ≠ it := Nat.ne_of_gt (Nat.lt_succ_of_lt (Nat.lt_trans hitD hDC))
  have hJD : C + 1 ≠ D := Nat.ne_of_gt (Nat.lt_succ_of_lt hDC)
  have hJC : C + 1 ≠ C := Nat.ne_of_gt (Nat.lt_succ_self C)
  have hP : Z.P < s₀.heap.objs.size := X.st.tab₀.2
  have nP : ∀ {b}, s₀.heap.objs.size ≤ b → b ≠ Z.P := fun h => Nat.ne_of_gt (Nat.lt_of_lt_of_le hP h)
  obtain ⟨cdS, hF⟩ := X.W.nSums
  refine codeAny_compLoop_tests (fun k s' => ∃ i m' g' ds jv, k = 3 - i ∧ i ≤ 3 ∧ Lw Z s₀ L sc none none g' s' m ∧ Ext g g' ∧ (∀ a ∈ [it, D, C, C + 1], g'.get? a = none) ∧ s'.heap.Ns C m' ∧ IsRangeIter s'.heap it ((i : Nat) : Int) (3 - (i : Nat)) 1 ∧
    s'.heap.PlainList D (ds.map Value.ref).toArray ∧ s'.heap.IsCell (C + 1) jv ∧ ds.length = i ∧ ∀ (j : Nat) (d : Addr), ds[j]? = some d → Cnt prog w g' d (sumsI (pick j ns))) ?_ 3
    ⟨0, _, g, [], none, rfl, Nat.zero_le _, X₃, Ext.refl _, ?_, hns₃, hit₃, hl₃, hj₃, rfl, fun j d h => by simp at h⟩
  rotate_left
  · intro a ha
    simp only [List.mem_cons, List.not_mem_nil, or_false] at ha
    rcases ha with rfl | rfl | rfl | rfl
    · exact fit.1
    · exact fD.1
    · exact fC.1
    · exact fJ.1
  clear X₃ e₃ hns₃ hit₃ hl₃ hj₃
  rintro k s' ⟨i, m', g', ds, jv, rfl, hile, X', eg, tn, hns', hit, hlD, hj, hdl, hds⟩
  by_cases hlt : i < 3
  · refine wpAny_pyNext_range_item hit (by omega) fun h₅ hit₅ hs₅ => ?_
    have X₅ := X'.tmp (tk := s'.toks + 1) (tn it (by simp)) fit.2.1 fit.2.2 hs₅.extBut
    have hj₅ := hj.sameBut hs₅ hJi
    refine wpAny_assign_Name (wpAny_storeName_cell (c := C + 1) rfl rfl rfl hj₅ fun h₆ hj₆ hs₆ => ?_)
    have X₆ := X₅.tmp (tk := s'.toks + 1) (tn (C + 1) (by simp)) fJ.2.1 fJ.2.2 hs₆.extBut
    have hns₆ := (hns'.sameBut hs₅ hCi).sameBut hs₆ (Ne.symm hJC)
    have hit₆ : IsRangeIter h₆ it ((i : Nat) + 1 : Int) (3 - (i : Nat) - 1) 1 := hs₆.extBut _ _ (Ne.symm hJi) hit₅
    have hl₆ := (hlD.extBut hs₅.extBut hDi).extBut hs₆.extBut (Ne.symm hJD)
    refine wpAny_tests_nil ?_
    rw [if_pos rfl]
    dsimp only
    refine wpAny_Call_Name_kw (ldG (mg := Z.mg) (X₆.W.g.keeps X₆.st.sub) X₆.W.gSums (callW (hF.ext eg) (spliced_cons ?_)))
    refine inner_spec (C := C) (j := i) (n := n + 2) Rm X₆.st X₆.W (isList_ext hl eg) hi hlen X₆.c0 hj₆ fun s₇ D7 ws S₇ hk₇ hz₇ hD7 hl7 hws => ?_
    have X₇ : Lw Z s₀ L sc none none g' s₇ m := X₆.to S₇ (Ext.refl _) X₆.gn fun b _ o e => hk₇ b o e
    have low : ∀ a ∈ [it, D, C, C + 1], a < h₆.objs.size := fun a ha => by
      simp only [List.mem_cons, List.not_mem_nil, or_false] at ha
      rcases ha with rfl | rfl | rfl | rfl
      · exact Heap.lt_size hit₆
      · exact let ⟨_, e⟩ := hl₆; Heap.lt_size e
      · exact hns₆.lt
      · exact hj₆.lt
    obtain ⟨n7, e7⟩ := hl7
    obtain ⟨g₈, X₈, eg₈, tn₈, see⟩ := X₇.see [it, D, C, C + 1] tn
    have hl8 : g₈.IsList D7 ws.toArray := ⟨_, see D7 _ e7 (Nat.le_trans X₆.st.size hD7) (X₆.apart hD7) (fun hm => absurd (low _ hm) (Nat.not_lt.mpr hD7)), rfl, n7, rfl⟩
    refine spliced_nil ⟨X₇.st.sub, ?_⟩
    refine call_mine (sums_spec (n := n) Rm X₈.st.start X₈.W hl8 hws (Nat.lt_of_lt_of_le hsz X₈.st.size)) X₈.st (hF.ext (eg.trans eg₈)) fun v g₉ s₉ B S₉ => ?_
    obtain ⟨d, rfl, hd, hc⟩ := B.post
    have X₉ := X₈.back B
    have hk₉ : ∀ b o, b ≠ Z.P → h₆.get? b = some o → s₉.heap.get? b = some o := fun b o hb e => B.st.ext b o hb (hk₇ b o e)
    have tn₉ : ∀ a ∈ [it, D, C, C + 1], g₉.get? a = none := fun a ha => by
      rw [B.own a (Nat.lt_of_lt_of_le (low a ha) hz₇)]; exact tn₈ a ha
    have hl₉ : s₉.heap.PlainList D (ds.map Value.ref).toArray := hl₆.at fun o e => hk₉ _ _ (nP fD.2.1) e
    refine wpAny_list_append_plain hl₉ (fun h₁₀ hl₁₀ hs₁₀ => ?_) (by rw [sizeLine_eq]; simp [hdl]; omega)
    have X₁₀ := X₉.tmp (tk := s₉.toks) (tn₉ D (by simp)) fD.2.1 fD.2.2 hs₁₀.extBut
    refine ⟨3 - (i + 1), by omega, i + 1, _, g₉, ds ++ [d], _, rfl, hlt, X₁₀, (eg.trans eg₈).trans B.ext, tn₉, (hns₆.at' fun o e => hk₉ _ o (nP fC.2.1) e).sameBut hs₁₀ (Ne.symm hDC'), ?_, ?_, (isCell_kept hj₆ fun o e => hk₉ _ o (nP fJ.2.1) e).sameBut hs₁₀ hJD, by simp [hdl], ?_⟩
    · have e2 : ((3 : Int) - ((i + 1 : Nat) : Nat)) = 3 - (i : Nat) - 1 := by omega
      have e1 : (((i + 1 : Nat) : Nat) : Int) = (i : Nat) + 1 := by omega
      rw [e2, e1]
      exact hs₁₀.extBut _ _ (Ne.symm hDi) (hk₉ _ _ (nP fit.2.1) hit₆)
    · simpa using hl₁₀
    · intro j d' hj'
      rcases Nat.lt_or_ge j ds.length with hlt' | hge
      · rw [List.getElem?_append_left hlt'] at hj'
        exact (hds j d' hj').ext (eg₈.trans B.ext)
      · rw [List.getElem?_append_right hge] at hj'
        have : j - ds.length = 0 := by
          rcases Nat.eq_zero_or_pos (j - ds.length) with h0 | h0
          · exact h0
          · rw [List.getElem?_eq_none (by simp; omega)] at hj'; cases hj'
        rw [this] at hj'
        cases hj'
        have : j = i := by omega
        rw [this]; exact hc
  · have hin : i = 3 := by omega
    subst hin
    refine wpAny_pyNext_range_end Rm.hd hit (by omega) fun h₅ he => ?_
    have X₅ := X'.tmp (tk := s'.toks) (tn it (by simp)) fit.2.1 fit.2.2 he
    have hns₅ := hns'.extBut he hCi
    have hl₅ := hlD.at (h' := h₅) fun o e => he _ _ hDi e
    refine ⟨rfl, stW X₅ fun s₆ X₆ hs₆ => ?_⟩
    have hLC : C ≠ L := fun h => fC.2.2 (by rw [h]; simp)
    have hLD : D ≠ L := fun h => fD.2.2 (by rw [h]; simp)
    refine ⟨_, hns₅.sameBut hs₆ hLC, fun h₇ hs₇ => ?_⟩
    have X₇ := X₆.tmp (tk := s₆.toks) (tn C (by simp)) fC.2.1 fC.2.2 hs₇.extBut
    obtain ⟨nl, hl₇⟩ := (hl₅.extBut hs₆.extBut hLD).extBut hs₇.extBut hDC'
    obtain ⟨g₈, X₈, eg₈, _, see⟩ := X₇.see [] (fun _ h => nomatch h)
    match ds, hdl, hds, hl₇ with
    | [d1, d2, d3], _, hds, hl₇ =>
      exact h g₈ _ D d1 d2 d3 X₈ (eg.trans eg₈) ((hds 0 d1 rfl).ext eg₈) ((hds 1 d2 rfl).ext eg₈) ((hds 2 d3 rfl).ext eg₈) ⟨_, see D _ hl₇ fD.2.1 fD.2.2 (fun h => nomatch h), rfl, nl, rfl⟩
end
end Mine
/-! M25 -/
namespace Mine
open PySem PySem.W PyProof.Rows PySem.Calls
set_option maxRecDepth 100000

section
variable {prog : Program} {w : World} {A : Around} {E : Value → Shared → Prop} {s : Shared}

theorem draw_list {it t : Addr} {items : Array Value} (hne : t ≠ it) : ∀ (n i : Nat) (s : Shared) (Q : List Value → Shared → Prop), s.heap.IsListIter it t i → s.heap.IsList t items → i + n ≤ items.size →
    (∀ h', h'.IsListIter it t (i + n) → Heap.SameBut it s.heap h' → Q ((items.toList.drop i).take n) { s with heap := h' }) → wpAny (model prog w) A (draw (.ref it) n) Q E s
  | 0, i, s, Q, hit, _, _, hQ => by
    show wpAny _ _ (pure []) Q E s
    exact wpAny_pure (by simpa using hQ s.heap hit (Heap.SameBut.refl ..))
  | n + 1, i, s, Q, hit, ht, hle, hQ => by
    have hlt : i < items.size := by omega
    show wpAny _ _ (pyNext (.ref it) >>= _) Q E s
    refine wpAny_bind (wpAny_pyNext_list_item hit ht (x := items[i]) (by simp [hlt]) fun h₁ hit₁ hs₁ => ?_)
    refine wpAny_bind (wpAny_holding (draw_list hne n (i + 1) _ _ hit₁ (ht.extBut hs₁.extBut hne) (by omega) fun h₂ hit₂ hs₂ => wpAny_pure ?_))
    have hd : items.toList.drop i = items[i] :: items.toList.drop (i + 1) := by simp [List.drop_eq_getElem_cons, hlt]
    have := hQ h₂ (by rw [show i + (n + 1) = i + 1 + n by omega]; exact hit₂) (hs₁.trans hs₂)
    rw [hd, List.take_succ_cons] at this
    exact this

theorem unpackItems_list {t : Addr} {items : Array Value} {Q : List Value → Shared → Prop} (hh : A.handled = none) (ht : s.heap.IsList t items)
    (hQ : ∀ h', Ext s.heap h' → Q items.toList { s with heap := h' }) : wpAny (model prog w) A (unpackItems (.ref t) items.size none) Q E s := by
  have hlt : t ≠ s.heap.objs.size := by obtain ⟨o, ho, _⟩ := ht; exact Nat.ne_of_lt (Heap.lt_size ho)
  unfold unpackItems
  refine wpAny_bind ?_
  · unfold notIterableAtAll
    refine wpAny_bind (wpAny_specialOf ht.typeIs slot_list_iter.lookup ?_)
    refine wpAny_pure ?_
    simp only [Bool.false_eq_true, if_false]
    refine wpAny_bind (wpAny_holding (wpAny_pyIter_list ht ?_))
    refine wpAny_bind (wpAny_holding (draw_list hlt items.size 0 _ _ ⟨_, Heap.get?_push_size _ rfl, rfl, rfl⟩ (isList_ext ht (Ext.push _ _)) (by omega) fun h₁ hit₁ hs₁ => ?_))
    have hall : List.take items.size (List.drop 0 items.toList) = items.toList := by
      rw [List.drop_zero]; exact List.take_of_length_le (by simp)
    rw [hall]
    simp only [Array.length_toList, Nat.lt_irrefl, if_false]
    refine wpAny_bind (wpAny_holding (wpAny_pyNext_list_end hh hit₁ ((isList_ext ht (Ext.push _ _)).extBut hs₁.extBut hlt) (by simp) fun h₂ he₂ => ?_))
    simp only [Option.isSome_none, Bool.false_eq_true, if_false]
    refine wpAny_pure (hQ h₂ fun b o e => ?_)
    have hb : b ≠ s.heap.objs.size := Nat.ne_of_lt (Heap.lt_size e)
    exact he₂ _ _ hb (hs₁.extBut _ _ hb (Heap.get?_push_of_some _ e))

theorem assign_Tuple_list {env : Env} {elts : List Expr} {x1} {pos : Pos} {t : Addr} {items : Array Value} {Q : Unit → Shared → Prop} (hh : A.handled = none) (ht : s.heap.IsList t items)
    (hn : (assignEach elts env).length = items.size) (hstar : (assignEach elts env).findIdx? (·.1) = none)
    (h : ∀ h', Ext s.heap h' → wpAny (model prog w) A (assignInOrder ((assignEach elts env).map (·.2)) items.toList) Q E { s with heap := h' }) :
    wpAny (model prog w) A (assign (.Tuple elts x1 pos) env (.ref t)) Q E s := by
  rw [arm_assign_Tuple]
  refine wpAny_bind (wpAny_standAt ?_)
  unfold unpack
  rw [hn, hstar]
  exact wpAny_bind (wpAny_holding (unpackItems_list hh ht h))
end

section
variable {prog : Program} {w : World} {A : Around} {E : Value → Shared → Prop} {s₀ s : Shared} {Z : Zone} {g : Heap} {L sc f : Addr} {cd : Value} {k1 k2 : Option Value} {m : Str → Option Value}

/-- first, second, third = rows -/
theorem law_unpack {r d1 d2 d3 : Addr} {n : Nat} {Q : Flow → Shared → Prop} (Rm : Room A n) (X : Lw Z s₀ L sc none none g s m) (hr : g.IsList r #[.ref d1, .ref d2, .ref d3]) (hm : m (Str.ofString "rows") = some (.ref r))
    (h : ∀ s', Lw Z s₀ L sc (some (.ref d1)) (some (.ref d2)) g s' (fun y => if y = Str.ofString "third" then some (.ref d3) else m y) → Q .next s') :
    wpAny (model prog w) A (exec (stmtL 1) (lawEnv L f cd)) Q E s := by
  refine Assign_Tuple (ldL X.ns hm (assign_Tuple_list Rm.hd (isList_ext hr X.st.sub) rfl rfl fun h₂ e₂ => ?_))
  have X₂ := X.grown (tk := s.toks) e₂
  refine inOrder_cons (wpAny_assign_Name (wpAny_storeName_cell (c := L + 2) rfl rfl rfl X₂.c1 fun h₃ hc₃ hs₃ => ?_))
  have n1 : L ≠ L + 2 := Nat.ne_of_lt (Nat.lt_add_of_pos_right (by decide))
  have n2 : L ≠ L + 3 := Nat.ne_of_lt (Nat.lt_add_of_pos_right (by decide))
  have n3 : L + 1 ≠ L + 2 := by simp
  have n4 : L + 1 ≠ L + 3 := by simp
  have n5 : L + 2 ≠ L + 3 := by simp
  have S₃ := X₂.st.same (tk := s.toks) (X₂.gn (L + 2) (by simp)) (Nat.le_trans X.Ln (Nat.le_add_right _ _)) hs₃
  have X₃ : Lw Z s₀ L sc (some (.ref d1)) none g { s with heap := h₃, toks := s.toks } m := ⟨S₃, X.W, X₂.ns.sameBut hs₃ n1, X.Ln, X.gn, X₂.c0.sameBut hs₃ n3, hc₃, X₂.c2.sameBut hs₃ (Ne.symm n5)⟩
  refine inOrder_cons (wpAny_assign_Name (wpAny_storeName_cell (c := L + 3) rfl rfl rfl X₃.c2 fun h₄ hc₄ hs₄ => ?_))
  have S₄ := X₃.st.same (tk := s.toks) (X₃.gn (L + 3) (by simp)) (Nat.le_trans X.Ln (Nat.le_add_right _ _)) hs₄
  have X₄ : Lw Z s₀ L sc (some (.ref d1)) (some (.ref d2)) g { s with heap := h₄, toks := s.toks } m := ⟨S₄, X.W, X₃.ns.sameBut hs₄ n2, X.Ln, X.gn, X₃.c0.sameBut hs₄ n4, X₃.c1.sameBut hs₄ n5, hc₄⟩
  exact inOrder_cons (wpAny_assign_Name (stW X₄ fun s₅ X₅ _ => inOrder_nil (h s₅ X₅)))

/-- a comprehension's begin within the law: the iterator, the list, the frame are new -/
theorem Lw.start {h₃ : Heap} {D C : Addr} {cs cl : List (Str × Addr)} {it : Obj} {tk : Nat} (X : Lw Z s₀ L sc k1 k2 g s m) (CS : CompStart (s.heap.push it) h₃ D C cs cl) :
    Lw Z s₀ L sc k1 k2 g { s with heap := h₃, toks := tk } m ∧ (g.get? s.heap.objs.size = none ∧ s₀.heap.objs.size ≤ s.heap.objs.size ∧ s.heap.objs.size ∉ lawOwn L) ∧
      (g.get? D = none ∧ s₀.heap.objs.size ≤ D ∧ D ∉ lawOwn L) ∧ (g.get? C = none ∧ s₀.heap.objs.size ≤ C ∧ C ∉ lawOwn L) ∧ s.heap.objs.size < D ∧ D < C := by
  have hitD : s.heap.objs.size < D := by have := CS.Dn; rw [Heap.size_push] at this; exact this
  have fr : ∀ b, s.heap.objs.size ≤ b → g.get? b = none ∧ s₀.heap.objs.size ≤ b ∧ b ∉ lawOwn L := fun b hb => ⟨fresh_none X.st hb, Nat.le_trans X.st.size hb, X.apart hb⟩
  exact ⟨X.grown ((Ext.push s.heap it).trans CS.ext), fr _ (Nat.le_refl _), fr _ (Nat.le_of_lt hitD), fr _ (Nat.le_of_lt (Nat.lt_trans hitD CS.DC)), hitD, CS.DC⟩

/-- the turns of a comprehension within the law -/
theorem lw_loop {env : Env} {elt iter : Expr} {x : Str} {px : Pos} {ifs : List Expr} {scope : Scope} {pos : Pos} {cl : List (Str × Addr)} {I D C : Addr} {fp : List Addr} {n : Nat} {P : Nat → Value → Prop} {T : Nat → Heap → Prop} {m₀ : Str → Option Value}
    {R : Result → Shared → Prop} (Inv : Nat → Heap → List Value → Prop) (X : Lw Z s₀ L sc k1 k2 g s m) (W : Walks prog w A I fp [I] n P T) (hT : T 0 s.heap) (hfp : ∀ b ∈ fp, b ≠ D ∧ b ≠ C ∧ b ≠ Z.P)
    (hI : g.get? I = none ∧ s₀.heap.objs.size ≤ I ∧ I ∉ lawOwn L) (hD : g.get? D = none ∧ s₀.heap.objs.size ≤ D ∧ D ∉ lawOwn L) (hC : g.get? C = none ∧ s₀.heap.objs.size ≤ C ∧ C ∉ lawOwn L) (hID' : I < D) (hDC' : D < C)
    (hl : s.heap.PlainList D #[]) (hns : s.heap.Ns C m₀) (h0 : Inv 0 g []) (hn : n ≤ 1000) (hxk : (compEnvC scope cl C env).kindOf x = some .local) (hkind : scope.kind = .function)
    (step : ∀ (E' : Value → Shared → Prop) i g' s' m' ys v, i < n → P i v → Lw Z s₀ L sc k1 k2 g' s' m → Ext g g' → (∀ a ∈ [I, D, C], g'.get? a = none) → s'.heap.Ns C m' → m' x = some v → Inv i g' ys →
      (∀ a ∈ [I, D, C], a < s'.heap.objs.size) → wpAny (model prog w) A (forIn ifs true fun c r => if r = true then do let ok ← isTrue c (compEnvC scope cl C env) (eval c (compEnvC scope cl C env)); pure (ForInStep.yield ok) else pure (ForInStep.yield r))
        (fun ok s₁ => if ok = true then wpAny (model prog w) A (eval elt (compEnvC scope cl C env)) (fun y s₂ => ∃ g'', Lw Z s₀ L sc k1 k2 g'' s₂ m ∧ Ext g' g'' ∧ (∀ a ∈ [I, D, C], g''.get? a = none) ∧ (∀ b o, b ≠ Z.P → s'.heap.get? b = some o → s₂.heap.get? b = some o) ∧ Inv (i + 1) g'' (ys ++ [y])) E' s₁
          else Lw Z s₀ L sc k1 k2 g' s₁ m ∧ (∀ b o, b ≠ Z.P → s'.heap.get? b = some o → s₁.heap.get? b = some o) ∧ Inv (i + 1) g' ys) E' s')
    (hR : ∀ g' s' m' ys, Lw Z s₀ L sc k1 k2 g' s' m → Ext g g' → (∀ a ∈ [I, D, C], g'.get? a = none) → s'.heap.Ns C m' → s'.heap.PlainList D ys.toArray → Inv n g' ys → R (.ok .next) s') :
    codeAny (model prog w) A (.compLoop (.ListComp elt [⟨.Name x px, iter, ifs, 0⟩] scope pos) 0 (.ref I) (.ref D) (compEnvC scope cl C env)) R s := by
  have hID : I ≠ D := Nat.ne_of_lt hID'
  have hDC : D ≠ C := Nat.ne_of_lt hDC'
  have hIC : I ≠ C := Nat.ne_of_lt (Nat.lt_trans hID' hDC')
  have hP : Z.P < s₀.heap.objs.size := X.st.tab₀.2
  have nP : ∀ {b}, s₀.heap.objs.size ≤ b → b ≠ Z.P := fun h => Nat.ne_of_gt (Nat.lt_of_lt_of_le hP h)
  have hp : ((compEnvC scope cl C env).scope.kind == .class || ((compEnvC scope cl C env).scope.kind == .module && (compEnvC scope cl C env).locals != (compEnvC scope cl C env).globals)) = false := by
    show (scope.kind == .class || (scope.kind == .module && _)) = false
    rw [hkind]; rfl
  refine codeAny_compLoop_tests (fun k s' => ∃ i m' g' ys, k = n - i ∧ i ≤ n ∧ Lw Z s₀ L sc k1 k2 g' s' m ∧ Ext g g' ∧ (∀ a ∈ [I, D, C], g'.get? a = none) ∧ s'.heap.Ns C m' ∧ T i s'.heap ∧ s'.heap.PlainList D ys.toArray ∧ ys.length ≤ i ∧ Inv i g' ys) ?_ n
    ⟨0, _, g, [], rfl, Nat.zero_le _, X, Ext.refl _, ?_, hns, hT, hl, Nat.le_refl _, h0⟩
  rotate_left
  · intro a ha
    simp only [List.mem_cons, List.not_mem_nil, or_false] at ha
    rcases ha with rfl | rfl | rfl
    · exact hI.1
    · exact hD.1
    · exact hC.1
  rintro k s' ⟨i, m', g', ys, rfl, hile, X', eg, tn, hns', hT', hlD, hyl, hInv⟩
  by_cases hlt : i < n
  · refine W.item i s' _ _ hlt hT' fun v h₅ tk₅ hPv hT₅ hk₅ => ?_
    have hk₅' : ∀ b o, b ≠ I → s'.heap.get? b = some o → h₅.get? b = some o := fun b o hb e => hk₅ b o (fun hm => hb (List.mem_singleton.mp hm)) e
    have X₅ := X'.tmp (tk := tk₅) (tn I (by simp)) hI.2.1 hI.2.2 hk₅'
    have hns₅ := hns'.at' fun o e => hk₅' C o (Ne.symm hIC) e
    refine wpAny_assign_Name (wpAny_storeName_local hxk hns₅ (fun h₆ hns₆ hs₆ => ?_) hp)
    have X₆ := X₅.tmp (tk := tk₅ + 1) (tn C (by simp)) hC.2.1 hC.2.2 hs₆.extBut
    have hl₆ := (hlD.at (h' := h₅) fun o e => hk₅' _ _ (Ne.symm hID) e).extBut hs₆.extBut hDC
    have hT₆ : T (i + 1) h₆ := by
      refine W.frame _ _ _ hT₅ fun b hb o e => hs₆.extBut _ _ (hfp b hb).2.1 e
    have low : ∀ a ∈ [I, D, C], a < h₆.objs.size := fun a ha => by
      have hC6 : C < h₆.objs.size := hns₆.lt
      simp only [List.mem_cons, List.not_mem_nil, or_false] at ha
      rcases ha with rfl | rfl | rfl
      · exact Nat.lt_trans (Nat.lt_trans hID' hDC') hC6
      · exact Nat.lt_trans hDC' hC6
      · exact hC6
    refine wpAny_mono (step _ i g' _ _ ys v hlt hPv X₆ eg tn hns₆ (by simp) hInv low) (fun ok s₇ h₇ => ?_) fun _ _ e => e
    cases ok with
    | false =>
      rw [if_neg Bool.false_ne_true] at h₇ ⊢
      obtain ⟨X₇, hk₇, hInv₇⟩ := h₇
      exact ⟨n - (i + 1), by omega, i + 1, _, g', ys, rfl, hlt, X₇, eg, tn, hns₆.at' fun o e => hk₇ _ o (nP hC.2.1) e, W.frame _ _ _ hT₆ fun b hb o e => hk₇ _ o (hfp b hb).2.2 e, hl₆.at fun o e => hk₇ _ _ (nP hD.2.1) e, Nat.le_succ_of_le hyl, hInv₇⟩
    | true =>
      rw [if_pos rfl] at h₇ ⊢
      refine wpAny_mono h₇ (fun y s₈ h₈ => ?_) fun _ _ e => e
      obtain ⟨g'', X₈, eg₈, tn₈, hk₈, hInv₈⟩ := h₈
      have hl₈ : s₈.heap.PlainList D ys.toArray := hl₆.at fun o e => hk₈ _ _ (nP hD.2.1) e
      refine wpAny_list_append_plain hl₈ (fun h₉ hl₉ hs₉ => ?_) (by rw [sizeLine_eq, List.size_toArray]; omega)
      exact ⟨n - (i + 1), by omega, i + 1, _, g'', ys ++ [y], rfl, hlt, X₈.tmp (tk := s₈.toks) (tn₈ D (by simp)) hD.2.1 hD.2.2 hs₉.extBut, eg.trans eg₈, tn₈, (hns₆.at' fun o e => hk₈ _ o (nP hC.2.1) e).sameBut hs₉ (Ne.symm hDC),
        W.frame _ _ _ (W.frame _ _ _ hT₆ fun b hb o e => hk₈ _ o (hfp b hb).2.2 e) fun b hb o e => hs₉.extBut _ _ (hfp b hb).1 e, by simpa using hl₉, by rw [List.length_append]; exact Nat.succ_le_succ hyl, hInv₈⟩
  · have hin : i = n := by omega
    subst hin
    refine W.done s' _ _ hT' fun h₅ tk₅ hk₅ => ?_
    have hk₅' : ∀ b o, b ≠ I → s'.heap.get? b = some o → h₅.get? b = some o := fun b o hb e => hk₅ b o (fun hm => hb (List.mem_singleton.mp hm)) e
    exact hR g' _ _ ys (X'.tmp (tk := tk₅) (tn I (by simp)) hI.2.1 hI.2.2 hk₅') eg tn (hns'.at' fun o e => hk₅' C o (Ne.symm hIC) e) (hlD.at fun o e => hk₅' _ _ (Ne.symm hID) e) hInv

/-- before = [dict(row) for row in rows] -/
theorem law_before {r d1 d2 d3 : Addr} {c1 c2 c3 : List (Int × Int)} {n : Nat} {Q : Flow → Shared → Prop} (Rm : Room A n) (X : Lw Z s₀ L sc k1 k2 g s m) (hr : g.IsList r #[.ref d1, .ref d2, .ref d3]) (hm : m (Str.ofString "rows") = some (.ref r))
    (h1 : Cnt prog w g d1 c1) (h2 : Cnt prog w g d2 c2) (h3 : Cnt prog w g d3 c3) (hsz : sysModules < s₀.heap.objs.size)
    (h : ∀ g' s' b e1 e2 e3, Lw Z s₀ L sc k1 k2 g' s' (fun y => if y = Str.ofString "before" then some (.ref b) else m y) → Ext g g' → Cnt prog w g' e1 c1 → Cnt prog w g' e2 c2 → Cnt prog w g' e3 c3 →
      g'.IsList b #[.ref e1, .ref e2, .ref e3] → Q .next s') :
    wpAny (model prog w) A (exec (stmtL 2) (lawEnv L f cd)) Q E s := by
  refine lcomp_assign (cl := []) rfl rfl rfl (by decide) (ldL X.ns hm ?_)
  refine wpAny_pyIter_list (isList_ext hr X.st.sub) fun D C h₃ tk₃ CS => ?_
  dsimp only at CS
  obtain ⟨X₃, hI, hD, hC, hID, hDC⟩ := X.start (tk := tk₃) CS
  have hit₃ : h₃.IsListIter s.heap.objs.size r 0 := ⟨_, CS.ext _ _ (Heap.get?_push_size _ rfl), rfl, rfl⟩
  have hns₃ := CS.ns
  have hl₃ := CS.list
  clear CS
  generalize s.heap.objs.size = I at *
  refine ⟨fun E' Q' hq => wpAny_pyIter_listiter hit₃ hq, ?_⟩
  have hrI : r ≠ I := fun h => by
    obtain ⟨o, ho, _⟩ := hr
    rw [h, hI.1] at ho; cases ho
  have hrx : ∀ b, g.get? b = none → r ≠ b := fun b hb h => by
    obtain ⟨o, ho, _⟩ := hr
    rw [h, hb] at ho; cases ho
  refine lw_loop (Inv := fun i g' ys => ∃ es : List Addr, ys = es.map Value.ref ∧ es.length = i ∧ ∀ (j : Nat) (e : Addr) c, es[j]? = some e → [c1, c2, c3][j]? = some c → Cnt prog w g' e c) X₃ (Walks.list Rm.hd I r hrI _) ⟨hit₃, isList_ext hr X₃.st.sub⟩
    (fun b hb => ?_) hI hD hC hID hDC hl₃ hns₃ ⟨[], rfl, rfl, fun j e c h => by simp at h⟩ (show 3 ≤ 1000 by decide) rfl rfl ?_ ?_
  · simp only [List.mem_cons, List.not_mem_nil, or_false] at hb
    rcases hb with rfl | rfl
    · exact ⟨Nat.ne_of_lt hID, Nat.ne_of_lt (Nat.lt_trans hID hDC), Nat.ne_of_gt (Nat.lt_of_lt_of_le X.st.tab₀.2 hI.2.1)⟩
    · exact ⟨hrx _ hD.1, hrx _ hC.1, hrx _ X.st.gP⟩
  · rintro E' i g' s' m' ys v hi hv X' eg tn hns' hmv ⟨es, rfl, hel, hes⟩ low
    refine wpAny_tests_nil ?_
    rw [if_pos rfl]
    refine wpAny_Call_Name_kw (ldBW X'.W X'.st.sub (by decide) rfl ?_)
    refine PySem.callWith_type rfl (evalArgs_plain (spliced_cons (ldL hns' hmv (spliced_nil ?_))))
    have hget : ∃ d c, v = .ref d ∧ [c1, c2, c3][i]? = some c ∧ Cnt prog w g' d c := by
      match i, hi, hv with
      | 0, _, hv => exact ⟨d1, c1, by simpa using hv.symm, rfl, h1.ext eg⟩
      | 1, _, hv => exact ⟨d2, c2, by simpa using hv.symm, rfl, h2.ext eg⟩
      | 2, _, hv => exact ⟨d3, c3, by simpa using hv.symm, rfl, h3.ext eg⟩
    obtain ⟨d, c, rfl, hc, h0, xs, hD', hI', hab, hR⟩ := hget
    refine call_dict_copy h0 (hD'.ext X'.st.sub) hR (by have := keys_short hD' hR; omega) fun h₅ e₅ hz₅ hd₅ => ?_
    have X₅ := X'.grown (tk := s'.toks) e₅
    obtain ⟨g'', X₆, eg₆, tn₆, see⟩ := X₅.see [I, D, C] tn
    refine ⟨g'', X₆, eg₆, tn₆, fun b o _ e => e₅ b o e, es ++ [s'.heap.objs.size], by simp, by simp [hel], fun j e c' hj hc' => ?_⟩
    rcases Nat.lt_or_ge j es.length with hlt' | hge
    · rw [List.getElem?_append_left hlt'] at hj
      exact (hes j e c' hj hc').ext eg₆
    · rw [List.getElem?_append_right hge] at hj
      have hj0 : j - es.length = 0 := by
        rcases Nat.eq_zero_or_pos (j - es.length) with h0 | h0
        · exact h0
        · rw [List.getElem?_eq_none (by simp; omega)] at hj; cases hj
      rw [hj0] at hj
      cases hj
      have : j = i := by omega
      rw [this, hc] at hc'
      cases hc'
      obtain ⟨o, ho⟩ : ∃ o, h₅.get? s'.heap.objs.size = some o := let ⟨o, _, _, ho, _⟩ := hd₅; ⟨o, ho⟩
      have gd := see _ _ ho X'.st.size (X'.apart (Nat.le_refl _)) (fun hm => absurd (low _ hm) (Nat.lt_irrefl _))
      refine ⟨beq_eq_false_iff_ne.mpr (Nat.ne_of_gt (Nat.lt_of_lt_of_le hsz X'.st.size)), xs, hd₅.seen (fun o' e => by rw [ho] at e; cases e; exact gd) fun y hy => (hD'.keys y hy).ext eg₆, hI', hab, hR⟩
  · rintro g' s' m' ys X' eg tn hns' hlD ⟨es, rfl, hel, hes⟩
    refine ⟨rfl, stW X' fun s₆ X₆ hs₆ => ?_⟩
    have hLC : C ≠ L := fun h => hC.2.2 (by rw [h]; simp)
    have hLD : D ≠ L := fun h => hD.2.2 (by rw [h]; simp)
    refine ⟨_, hns'.sameBut hs₆ hLC, fun h₇ hs₇ => ?_⟩
    have X₇ := X₆.tmp (tk := s₆.toks) (tn C (by simp)) hC.2.1 hC.2.2 hs₇.extBut
    obtain ⟨nl, hl₇⟩ := (hlD.extBut hs₆.extBut hLD).extBut hs₇.extBut (Nat.ne_of_lt hDC)
    obtain ⟨g₈, X₈, eg₈, _, see⟩ := X₇.see [] (fun _ h => nomatch h)
    match es, hel, hes, hl₇ with
    | [e1, e2, e3], _, hes, hl₇ =>
      exact h g₈ _ D e1 e2 e3 X₈ (eg.trans eg₈) ((hes 0 e1 c1 rfl rfl).ext eg₈) ((hes 1 e2 c2 rfl rfl).ext eg₈) ((hes 2 e3 c3 rfl rfl).ext eg₈) ⟨_, see D _ hl₇ hD.2.1 hD.2.2 (fun h => nomatch h), rfl, nl, rfl⟩
end
end Mine
/-! M26 -/
namespace Mine
open PySem PySem.W PyProof.Rows PySem.Calls
set_option maxRecDepth 100000

/-! ### comparing lists whose items compare equal here -/
open AutoSeq1 (wpAny_loadPart')
open MeetsSeq MeetsSeq2 MeetsSeq3

/-- equal, in this program and world -/
def EqHere (prog : Program) (w : World) (A : Around) (s : Shared) (y x : Value) : Prop := ∀ (E : Value → Shared → Prop) (Q : Bool → Shared → Prop), Q true s → wpAny (model prog w) A (eqBool y x) Q E s

section
variable {prog : Program} {w : World} {A : Around} {E : Value → Shared → Prop} {s : Shared}

theorem ne_loopHere (l b : Addr) (items items2 : Array Value) (n n2 : Nat) (dd dd2 : Option Addr) (sl sl2 : Array (Option Value)) (hsz : items.size = items2.size) (k : Nat) :
    ∀ i : Nat, items.size - i = k → MeetsIn prog w (Builtin.«list.__eq__.loop» ⟨[.ref l, .ref b, rawInt i, rawInt 3], []⟩)
      (fun A R s => s.heap.get? l = some { cls := .type "list", dict := dd, data := .seq items n, slots := sl } ∧ s.heap.get? b = some { cls := .type "list", dict := dd2, data := .seq items2 n2, slots := sl2 } ∧
        (∀ j (h1 : j < items.size) (h2 : j < items2.size), EqHere prog w A.in1 s items[j] items2[j]) ∧ R (.ok (.ret (.bool false))) s) := by
  induction k with
  | zero =>
    intro i hk A R s h
    obtain ⟨hp, g, d, tk, os⟩ := s; obtain ⟨hl, hb, he, h⟩ := h
    wp_walk using wpAny_loadPart' hl, wpAny_loadPart' hb
    have hi1 : items[((i : Nat) : Int).toNat]? = none := by simp; omega
    have hi2 : items2[((i : Nat) : Int).toNat]? = none := by simp; omega
    rw [hi1, hi2]
    wp_walk using wpAny_loadPart' hl, wpAny_loadPart' hb
    show R (.ok (.ret (.bool (items.size != items2.size)))) _
    rw [hsz]
    simpa using h
  | succ k ih =>
    intro i hk A R s h
    obtain ⟨hp, g, d, tk, os⟩ := s; obtain ⟨hl, hb, he, h⟩ := h
    wp_walk using wpAny_loadPart' hl, wpAny_loadPart' hb
    have hlt : i < items.size := by omega
    have hlt2 : i < items2.size := by omega
    have hi1 : items[((i : Nat) : Int).toNat]? = some items[i] := by simp [hlt]
    have hi2 : items2[((i : Nat) : Int).toNat]? = some items2[i] := by simp [hlt2]
    have hc : ((i : Int) + 1) = ((i + 1 : Nat) : Int) := by push_cast; rfl
    rw [hi1, hi2]
    refine wpAny_bind (he i hlt hlt2 _ _ ?_)
    wp_walk
    rw [hc]
    exact ⟨plainId_quiet plain_eq_loop _, codeAny_builtin entry_eq_loop (by
      rw [Around.under_plainId plain_eq_loop _]
      exact ih (i + 1) (by omega) A R _ ⟨hl, hb, he, h⟩)⟩

theorem list_neHere (l b : Addr) (items items2 : Array Value) (n n2 : Nat) (dd dd2 : Option Addr) (sl sl2 : Array (Option Value)) (hsz : items.size = items2.size) :
    MeetsIn prog w (Builtin.«list.__ne__» ⟨[.ref l, .ref b], []⟩)
      (fun A R s => s.heap.get? l = some { cls := .type "list", dict := dd, data := .seq items n, slots := sl } ∧ s.heap.get? b = some { cls := .type "list", dict := dd2, data := .seq items2 n2, slots := sl2 } ∧
        (∀ j (h1 : j < items.size) (h2 : j < items2.size), EqHere prog w A.in1 s items[j] items2[j]) ∧ R (.ok (.ret (.bool false))) s) := by
  intro A R s h
  obtain ⟨hp, g, d, tk, os⟩ := s; obtain ⟨hl, hb, he, h⟩ := h
  have f3 := AutoSeq1.sub_list_list
  have hne : ¬ (items.size != items2.size) = true := by simp [hsz]
  wp_walk using wpAny_loadPart' hl, wpAny_loadPart' hb
  exact ⟨plainId_quiet plain_eq_loop _, codeAny_builtin entry_eq_loop (by
    rw [Around.under_plainId plain_eq_loop _]
    exact ne_loopHere l b items items2 n n2 dd dd2 sl sl2 hsz _ 0 rfl A R _ ⟨hl, hb, he, h⟩)⟩

/-- two lists, item by item equal: != says False -/
theorem list_ne_false {l b : Addr} {items items2 : Array Value} {Q : Value → Shared → Prop} (hl : s.heap.IsList l items) (hb : s.heap.IsList b items2) (hsz : items.size = items2.size) (hu : A.units < cLine)
    (he : ∀ j (h1 : j < items.size) (h2 : j < items2.size), EqHere prog w A.in1 s items[j] items2[j]) (h : Q (.bool false) s) : wpAny (model prog w) A (compareOp .NotEq (.ref l) (.ref b)) Q E s := by
  obtain ⟨⟨cls, dd, data, sl⟩, ho, hc, n, hd⟩ := id hl
  obtain ⟨⟨cls2, dd2, data2, sl2⟩, ho2, hc2, n2, hd2⟩ := id hb
  simp only at hc hd hc2 hd2
  subst hc hd hc2 hd2
  show wpAny _ _ (richCompare .NotEq (.ref l) (.ref b)) _ _ _
  exact wpAny_richCompare_same_room (op := .NotEq) ⟨_, ho, rfl⟩ ⟨_, ho2, rfl⟩ F.slot_list_ne
    (call_meetsIn F.slot_list_ne ⟨_, ho, rfl⟩ F.entry_list_ne (F.args_list_ne_2 _ _) (list_neHere l b items items2 n n2 dd dd2 sl sl2 hsz) ⟨ho, ho2, he, (fun x => nomatch x), h⟩) hu

theorem EqHere.of {y x : Value} (h : SeqAt.EqAt A s y x true) : EqHere prog w A s y x := fun E Q hq => h prog w E Q hq

/-! dicts of counts -/
theorem Cnt.nodup {h : Heap} {d : Addr} {c : List (Int × Int)} (x : Cnt prog w h d c) : (keysG c).Nodup := by
  obtain ⟨_, xs, hD, _, rfl, _⟩ := x
  rw [keysG, absI_keys]; exact hD.nodup
theorem cnt_parts {h : Heap} {d e : Addr} {c c' : List (Int × Int)} (x : Cnt prog w h d c) (y : Cnt prog w h e c') (hk : ∀ k, k ∈ keysG c ↔ k ∈ keysG c') (hv : ∀ k, getI c k = getI c' k) :
    ∃ xs ys, D prog w h d xs ∧ D prog w h e ys ∧ xs.length = ys.length ∧ ∀ (A : Around) (s : Shared), ∀ z ∈ xs, ∃ p, atKey ys z.1 = some p ∧ SeqAt.EqAt A s z.2.2 p.2 true := by
  have n1 := x.nodup
  have n2 := y.nodup
  obtain ⟨_, xs, hD, hI, rfl, _⟩ := x
  obtain ⟨_, ys, hD', hI', rfl, _⟩ := y
  refine ⟨xs, ys, hD, hD', ?_, fun A s z hz => ?_⟩
  · have h1 := List.Nodup.length_le_of_subset n1 fun k hm => (hk k).mp hm
    have h2 := List.Nodup.length_le_of_subset n2 fun k hm => (hk k).mpr hm
    simp only [keysG, absI, List.length_map] at h1 h2
    omega
  · have hm : z.1 ∈ keysG (absI ys) := (hk z.1).mp (by rw [keysG, absI_keys]; exact List.mem_map.mpr ⟨z, hz, rfl⟩)
    rw [keysG, absI_keys] at hm
    have hs := atKey_isSome.mpr hm
    cases hp : atKey ys z.1 with
    | none => rw [hp] at hs; cases hs
    | some p =>
      refine ⟨p, rfl, ?_⟩
      obtain ⟨t, ht⟩ := hI z hz
      obtain ⟨t', ht'⟩ := atKey_get hI' z.1 0
      rw [hp] at ht'
      simp only [Option.map_some, Option.getD_some] at ht'
      obtain ⟨j, hj⟩ := List.mem_iff_getElem?.mp hz
      have hz1 := atKey_of_get hD.nodup (k := z.1) (p := z.2) hj
      obtain ⟨t'', ht''⟩ := atKey_get hI z.1 0
      rw [hz1] at ht''
      simp only [Option.map_some, Option.getD_some] at ht''
      rw [ht', ht'', hv z.1]
      have := SeqAt.EqAt.int_int (A := A) (s := s) (getI (absI ys) z.1) t'' (getI (absI ys) z.1) t'
      simpa using this
theorem cnt_ne {d e : Addr} {c c' : List (Int × Int)} {Q : Value → Shared → Prop} (hu : A.units + 1 < cLine) (x : Cnt prog w s.heap d c) (y : Cnt prog w s.heap e c') (hk : ∀ k, k ∈ keysG c ↔ k ∈ keysG c') (hv : ∀ k, getI c k = getI c' k)
    (h : Q (.bool false) s) : wpAny (model prog w) A (compareOp .NotEq (.ref d) (.ref e)) Q E s := by
  obtain ⟨xs, ys, hD, hD', hl, hall⟩ := cnt_parts x y hk hv
  exact dict_ne_false x.1 y.1 hu hD hD' hl (hall _ _) h
theorem cnt_eq {d e : Addr} {c : List (Int × Int)} (hu : A.units + 1 < cLine) (x : Cnt prog w s.heap d c) (y : Cnt prog w s.heap e c) : EqHere prog w A s (.ref d) (.ref e) := fun E Q hq => by
  obtain ⟨xs, ys, hD, hD', hl, hall⟩ := cnt_parts x y (fun _ => Iff.rfl) fun _ => rfl
  unfold eqBool
  refine wpAny_holding ?_
  refine wpAny_ite_split (fun _ => wpAny_bind (wpAny_rule (wpAny_pure hq))) (fun _ => ?_)
  exact wpAny_bind (dict_eq_true x.1 y.1 hu hD hD' hl (hall _ _) (wpAny_truthy_bool hq))
end
end Mine
/-! M27 -/
namespace Mine
open PySem PySem.W PyProof.Rows PySem.Calls
set_option maxRecDepth 100000

inductive KeyRefs (g : Heap) : List Value → List Int → Prop
  | nil : KeyRefs g [] []
  | cons {a : Addr} {r : Int} {vs : List Value} {rs : List Int} : IsKey g r a → KeyRefs g vs rs → KeyRefs g (.ref a :: vs) (r :: rs)
theorem KeyRefs.ext {g g' : Heap} {vs : List Value} {rs : List Int} (x : KeyRefs g vs rs) (e : Ext g g') : KeyRefs g' vs rs := by
  induction x with
  | nil => exact .nil
  | cons h _ ih => exact .cons (h.ext e) ih
theorem KeyRefs.append {g : Heap} {vs ws : List Value} {rs qs : List Int} (x : KeyRefs g vs rs) (y : KeyRefs g ws qs) : KeyRefs g (vs ++ ws) (rs ++ qs) := by
  induction x with
  | nil => exact y
  | cons h _ ih => exact .cons h ih
theorem KeyRefs.length {g : Heap} {vs : List Value} {rs : List Int} (x : KeyRefs g vs rs) : vs.length = rs.length := by
  induction x with
  | nil => rfl
  | cons _ _ ih => simp [ih]
theorem KeyRefs.get {g : Heap} {vs : List Value} {rs : List Int} (x : KeyRefs g vs rs) : ∀ {j : Nat} {v : Value}, vs[j]? = some v → ∃ a r, v = .ref a ∧ rs[j]? = some r ∧ IsKey g r a := by
  induction x with
  | nil => intro j v h; simp at h
  | cons hk _ ih =>
    intro j v h
    cases j with
    | zero => simp at h; subst h; exact ⟨_, _, rfl, rfl, hk⟩
    | succ i => simp at h; simpa using ih h
theorem KeyRefs.ofD {prog : Program} {w : World} {g : Heap} {d : Addr} {xs : List Ent} (x : D prog w g d xs) : KeyRefs g (xs.map fun y => .ref y.2.1) (xs.map (·.1)) := by
  have := x.keys
  clear x
  induction xs with
  | nil => exact .nil
  | cons y r ih => exact .cons (this y List.mem_cons_self) (ih fun z hz => this z (List.mem_cons_of_mem _ hz))

/-- the keys of both, the first's ahead -/
def mergeK (c1 c2 : List (Int × Int)) : List Int := keysG c1 ++ (keysG c2).filter fun k => decide (k ∉ keysG c1)
def dueOf (c1 c2 : List (Int × Int)) : List (Int × Int) := (mergeK c1 c2).map fun k => (k, getI c1 k + getI c2 k)

section
variable {prog : Program} {w : World} {A : Around} {E : Value → Shared → Prop} {s₀ s : Shared} {Z : Zone} {g : Heap} {L sc f : Addr} {cd : Value} {k1 k2 : Option Value} {m : Str → Option Value}

theorem addC {d1 d2 : Addr} {c1 c2 : List (Int × Int)} {n : Nat} {Q : Value → Shared → Prop} (Rm : Room A (n + 2)) (X : Lw Z s₀ L sc k1 k2 g s m) (h1 : Cnt prog w g d1 c1) (h2 : Cnt prog w g d2 c2) (hsz : sysModules < s₀.heap.objs.size)
    (h : ∀ g' s' d, Lw Z s₀ L sc k1 k2 g' s' m → Ext g g' → Cnt prog w g' d (c2.foldl addI c1) → Q (.ref d) s') : wpAny (model prog w) A (call (.ref Z.fAdd) [.ref d1, .ref d2]) Q E s := by
  refine call_mine (add_ints (n := n) Rm X.st.start X.W h1 h2 (Nat.lt_of_lt_of_le hsz X.st.size)) X.st X.W.nAdd fun v g' s' B _ => ?_
  obtain ⟨d, rfl, _, hc⟩ := B.post
  exact h g' s' d (X.back B) B.ext hc

/-- both = add_callers(first, second) -/
theorem law_both {d1 d2 : Addr} {c1 c2 : List (Int × Int)} {n : Nat} {Q : Flow → Shared → Prop} (Rm : Room A (n + 2)) (X : Lw Z s₀ L sc (some (.ref d1)) (some (.ref d2)) g s m) (h1 : Cnt prog w g d1 c1) (h2 : Cnt prog w g d2 c2) (hsz : sysModules < s₀.heap.objs.size)
    (h : ∀ g' s' d, Lw Z s₀ L sc (some (.ref d1)) (some (.ref d2)) g' s' (fun y => if y = Str.ofString "both" then some (.ref d) else m y) → Ext g g' → Cnt prog w g' d (c2.foldl addI c1) → Q .next s') :
    wpAny (model prog w) A (exec (stmtL 3) (lawEnv L f cd)) Q E s := by
  refine wpAny_Assign_Name (wpAny_Call_Name_kw (ldG (mg := Z.mg) (X.W.g.keeps X.st.sub) X.W.gAdd (callW X.W.nAdd (spliced_cons (ldC X.c1 (spliced_cons (ldC X.c2 (spliced_nil ⟨X.st.sub, ?_⟩))))))))
  exact addC (n := n) Rm X h1 h2 hsz fun g' s' d X' e hc => stW X' fun s'' X'' _ => h g' s'' d X'' e hc

/-- keys = list(first) + [key for key in second if key not in first] -/
theorem law_keys {d1 d2 : Addr} {c1 c2 : List (Int × Int)} {n : Nat} {Q : Flow → Shared → Prop} (Rm : Room A (n + 2)) (X : Lw Z s₀ L sc (some (.ref d1)) (some (.ref d2)) g s m) (h1 : Cnt prog w g d1 c1) (h2 : Cnt prog w g d2 c2)
    (h : ∀ g' s' K vs, Lw Z s₀ L sc (some (.ref d1)) (some (.ref d2)) g' s' (fun y => if y = Str.ofString "keys" then some (.ref K) else m y) → Ext g g' → g'.IsList K vs.toArray → KeyRefs g' vs (mergeK c1 c2) → Q .next s') :
    wpAny (model prog w) A (exec (stmtL 4) (lawEnv L f cd)) Q E s := by
  obtain ⟨hS1, xs, hD1, hI1, rfl, hR1⟩ := h1
  obtain ⟨hS2, ys, hD2, hI2, rfl, hR2⟩ := h2
  have hu : A.in1.units < cLine := by have := Rm.unit; show A.units + 1 < cLine; omega
  have sh1 := keys_short hD1 hR1
  have sh2 := keys_short hD2 hR2
  refine wpAny_Assign_Name (wpAny_BinOp (wpAny_Call_Name_kw (ldBW X.W X.st.sub (by decide) rfl ?_)))
  refine PySem.callWith_type rfl (evalArgs_plain (spliced_cons (ldC X.c1 (spliced_nil ?_))))
  refine call_list_dict hS1 Rm.hd (hD1.ext X.st.sub) (by omega) fun h₁ tk₁ n₁ e₁ hl₁ => ?_
  obtain ⟨g₁, X₁, eg₁, _, see₁⟩ := (X.grown (tk := tk₁) e₁).see [] (fun _ h => nomatch h)
  have gl1 := see₁ _ _ hl₁ X.st.size (X.apart (Nat.le_refl _)) (fun h => nomatch h)
  clear see₁
  generalize s.heap.objs.size = l1 at *
  refine lcomp (cl := [(Str.ofString "first", L + 2)]) rfl rfl (by decide) (ldC X₁.c2 ?_)
  obtain ⟨es, ep, hraw, hes, hget⟩ := hD2.rawAt
  refine raw_pyIter hS2 ((hraw.ext eg₁).ext X₁.st.sub) fun D C h₃ tk₃ CS => ?_
  dsimp only at CS
  obtain ⟨X₃, hI, hD, hC, hID, hDC⟩ := X₁.start (tk := tk₃) CS
  have hit₃ : h₃.IsKeyIter h₁.objs.size d2 0 es.size ep := ⟨_, CS.ext _ _ (Heap.get?_push_size _ rfl), rfl, rfl⟩
  have hns₃ := CS.ns
  have hl₃ := CS.list
  clear CS
  dsimp only at hI hID
  generalize h₁.objs.size = I at *
  refine ⟨fun E' Q' hq => wpAny_pyIter_keyiter hit₃ hq, ?_⟩
  have hdx : ∀ b, g₁.get? b = none → d2 ≠ b := fun b hb h => by
    obtain ⟨o, _, _, ho, _⟩ := hD2
    have := eg₁ _ _ ho
    rw [h, hb] at this; cases this
  refine lw_loop (Inv := fun i g' vs => KeyRefs g' vs ((keysG (absI ys)).take i |>.filter fun k => decide (k ∉ keysG (absI xs)))) X₃ (walks_keys Rm.hd I d2 (hdx _ hI.1) es ep) ⟨hit₃, (hraw.ext eg₁).ext X₃.st.sub⟩
    (fun b hb => ?_) hI hD hC hID hDC hl₃ hns₃ .nil (by rw [hes]; omega) rfl rfl ?_ ?_
  · simp only [List.mem_cons, List.not_mem_nil, or_false] at hb
    rcases hb with rfl | rfl
    · exact ⟨Nat.ne_of_lt hID, Nat.ne_of_lt (Nat.lt_trans hID hDC), Nat.ne_of_gt (Nat.lt_of_lt_of_le X.st.tab₀.2 hI.2.1)⟩
    · exact ⟨hdx _ hD.1, hdx _ hC.1, hdx _ X₁.st.gP⟩
  · rintro E' i g' s' m' vs v hi hv X' eg tn hns' hmv hInv low
    obtain ⟨e, he, rfl⟩ := hv
    rw [hes] at hi
    have hx := List.getElem?_eq_getElem hi
    rw [hget i _ hx] at he
    cases he
    have hkey := (hD2.keys _ (List.getElem_mem hi)).ext (eg₁.trans eg)
    have hd1' := hD1.ext ((eg₁.trans eg).trans X'.st.sub)
    refine wpAny_tests_one (wpAny_isTrue_Compare1 (ldL hns' hmv (ldC X'.c1 (wpAny_notIn_heap (kk_room hu) (kk_is.mpr (hkey.ext X'.st.sub)) hS1 hd1' (wpAny_truthy_bool ?_)))))
    have htake : (keysG (absI ys)).take (i + 1) = (keysG (absI ys)).take i ++ [ys[i].1] := by
      have hl : i < (keysG (absI ys)).length := by rw [keysG, absI_keys, List.length_map]; exact hi
      rw [List.take_succ_eq_append_getElem hl]
      congr 2
      simp [keysG, absI]
    have hmem : (atKey xs ys[i].1).isSome = true ↔ ys[i].1 ∈ keysG (absI xs) := by rw [keysG, absI_keys]; exact atKey_isSome
    cases hq : (atKey xs ys[i].1).isSome with
    | true =>
      rw [Bool.not_true, if_neg Bool.false_ne_true]
      refine ⟨X'.tok, fun b o _ e => e, ?_⟩
      show KeyRefs g' vs (List.filter _ _)
      rw [htake, List.filter_append, List.filter_cons_of_neg (by simpa using hmem.mp hq)]
      simpa using hInv
    | false =>
      rw [Bool.not_false, if_pos rfl]
      refine ldL hns' hmv ⟨g', X'.tok, Ext.refl _, tn, fun b o _ e => e, ?_⟩
      have hn : ys[i].1 ∉ keysG (absI xs) := fun h => by rw [hmem.mpr h] at hq; cases hq
      show KeyRefs g' _ (List.filter _ _)
      rw [htake, List.filter_append, List.filter_cons_of_pos (by simpa using hn)]
      exact hInv.append (.cons hkey .nil)
  · rintro g' s' m' vs X' eg tn hns' hlD hInv
    refine ⟨rfl, _, hns', fun h₆ hs₆ => ?_⟩
    have X₆ := X'.tmp (tk := s'.toks) (tn C (by simp)) hC.2.1 hC.2.2 hs₆.extBut
    obtain ⟨nl, hl₆⟩ := hlD.extBut hs₆.extBut (Nat.ne_of_lt hDC)
    have hl1₆ : IsL h₆ l1 _ _ := X₆.st.sub _ _ (eg _ _ gl1)
    have hvl := hInv.length
    refine P.add_list hl1₆ hl₆ ?_ (by
      rw [sizeLine_eq]
      have h1 := List.length_filter_le (fun k => decide (k ∉ keysG (absI xs))) ((keysG (absI ys)).take es.size)
      have h2 : ((keysG (absI ys)).take es.size).length ≤ es.size := List.length_take_le _ _
      simp only [List.size_toArray, List.length_map]
      omega)
    have X₇ := X₆.grown (tk := s'.toks) (Ext.push h₆ { cls := .type "list", data := .seq ((xs.map fun x => Value.ref x.2.1).toArray ++ vs.toArray) })
    refine stW X₇ fun s₈ X₈ hs₈ => ?_
    obtain ⟨g₉, X₉, eg₉, _, see⟩ := X₈.see [] (fun _ h => nomatch h)
    have hK : h₆.objs.size ≠ L := fun h => X₆.apart (Nat.le_refl _) (by rw [show ({ s' with heap := h₆, toks := s'.toks } : Shared).heap.objs.size = L from h]; simp)
    have gK := see _ _ (hs₈.extBut _ _ hK (Heap.get?_push_size _ rfl)) X₆.st.size (X₆.apart (Nat.le_refl _)) (fun h => nomatch h)
    refine h g₉ s₈ h₆.objs.size ((xs.map fun x => Value.ref x.2.1) ++ vs) X₉ ((eg₁.trans eg).trans eg₉) ⟨_, gK, rfl, 0, by simp⟩ ?_
    have x := ((KeyRefs.ofD hD1).ext ((eg₁.trans eg).trans eg₉)).append (hInv.ext eg₉)
    unfold mergeK
    rw [show keysG (absI xs) = xs.map (·.1) from absI_keys xs]
    rw [List.take_of_length_le (by rw [hes, keysG, absI_keys, List.length_map]; exact Nat.le_refl _), show keysG (absI xs) = xs.map (·.1) from absI_keys xs] at x
    exact x

/-- d.get(key, 0) -/
theorem get_count {env : Env} {d a : Addr} {r : Int} {c : List (Int × Int)} {key0 : Expr} {o : Expr} {p p' q : Pos} {kk0 : Nat} {u : Shared} {Q : Value → Shared → Prop} (hu : A.in1.units < cLine) (hc : Cnt prog w g d c)
    (ho : ∀ Q' : Value → Shared → Prop, Q' (.ref d) u → wpAny (model prog w) A (eval o env) Q' E u) (hk : ∀ (u' : Shared) (Q' : Value → Shared → Prop), u'.heap = u.heap → Q' (.ref a) u' → wpAny (model prog w) A (eval key0 env) Q' E u') (hg : Ext g u.heap) (hkey : IsKey u.heap r a)
    (hbase : attributeBase o (Str.ofString "get") env (eval o env) = eval o env) (hline : (p.endLine == q.line) = true)
    (htrees : backTo q (starEach [key0, .Constant (.int 0) kk0 p'] env) = [(false, eval key0 env), (false, eval (.Constant (.int 0) kk0 p') env)])
    (h : ∀ t tk, Q (.int (getI c r) t) { u with toks := tk }) : wpAny (model prog w) A (eval (.Call (.Attribute o (Str.ofString "get") p) [key0, .Constant (.int 0) kk0 p'] [] q) env) Q E u := by
  obtain ⟨h0, xs, hD, hI, rfl, hR⟩ := hc
  refine wpAny_Call_method2_late hbase hline htrees (ho _ ?_)
  refine ⟨"dict", "dict.get", F.plainAttrs_dict, F.slot_dict_get, F.type_dict_get, (hD.ext hg).typeIs, (hD.ext hg).noDict, ?_⟩
  refine wpAny_dict_get2_heap (kk_room hu) h0 (hk _ _ rfl (wpAny_Constant_int ⟨a, r, xs, rfl, kk_is.mpr hkey, hD.ext hg, ?_⟩))
  obtain ⟨t', ht'⟩ := atKey_get hI r u.toks
  rw [ht']
  exact h _ _
end
end Mine
/-! M28 -/
namespace Mine
open PySem PySem.W PyProof.Rows PySem.Calls
set_option maxRecDepth 100000

section
variable {prog : Program} {w : World} {A : Around} {E : Value → Shared → Prop} {s₀ s : Shared} {Z : Zone} {g : Heap} {L sc f : Addr} {cd : Value} {k1 k2 : Option Value} {m : Str → Option Value}

/-- due = dict([(key, first.get(key, 0) + second.get(key, 0)) for key in keys]) -/
theorem law_due {d1 d2 K : Addr} {vs : List Value} {c1 c2 : List (Int × Int)} {n : Nat} {Q : Flow → Shared → Prop} (Rm : Room A (n + 2)) (X : Lw Z s₀ L sc (some (.ref d1)) (some (.ref d2)) g s m) (h1 : Cnt prog w g d1 c1) (h2 : Cnt prog w g d2 c2)
    (hm : m (Str.ofString "keys") = some (.ref K)) (hK : g.IsList K vs.toArray) (hks : KeyRefs g vs (mergeK c1 c2)) (hnd : (mergeK c1 c2).Nodup) (hsm : ∀ k ∈ mergeK c1 c2, Small k) (hsz : sysModules < s₀.heap.objs.size)
    (h : ∀ g' s' e, Lw Z s₀ L sc (some (.ref d1)) (some (.ref d2)) g' s' (fun y => if y = Str.ofString "due" then some (.ref e) else m y) → Ext g g' → Cnt prog w g' e (dueOf c1 c2) → Q .next s') :
    wpAny (model prog w) A (exec (stmtL 5) (lawEnv L f cd)) Q E s := by
  have hu : A.in1.units < cLine := by have := Rm.unit; show A.units + 1 < cLine; omega
  have hlen : vs.length = (mergeK c1 c2).length := hks.length
  have hshort := small_length hnd hsm
  refine wpAny_Assign_Name (wpAny_Call_Name_kw (ldBW X.W X.st.sub (by decide) rfl ?_))
  refine PySem.callWith_type rfl (evalArgs_plain (spliced_cons ?_))
  refine lcomp (cl := [(Str.ofString "second", L + 3), (Str.ofString "first", L + 2)]) rfl rfl (by decide) (ldL X.ns hm ?_)
  refine wpAny_pyIter_list (isList_ext hK X.st.sub) fun D C h₃ tk₃ CS => ?_
  dsimp only at CS
  obtain ⟨X₃, hI, hD, hC, hID, hDC⟩ := X.start (tk := tk₃) CS
  have hit₃ : h₃.IsListIter s.heap.objs.size K 0 := ⟨_, CS.ext _ _ (Heap.get?_push_size _ rfl), rfl, rfl⟩
  have hns₃ := CS.ns
  have hl₃ := CS.list
  clear CS
  generalize s.heap.objs.size = I at *
  refine ⟨fun E' Q' hq => wpAny_pyIter_listiter hit₃ hq, ?_⟩
  have hrx : ∀ b, g.get? b = none → K ≠ b := fun b hb h => by
    obtain ⟨o, ho, _⟩ := hK
    rw [h, hb] at ho; cases ho
  refine lw_loop (Inv := fun i g' ys => ∃ ps : List Ent, PairsAt g' ys ps ∧ ps.map (·.1) = (mergeK c1 c2).take i ∧ IsInts ps ∧ absI ps = (dueOf c1 c2).take i) X₃ (Walks.list Rm.hd I K (hrx _ hI.1) _) ⟨hit₃, isList_ext hK X₃.st.sub⟩
    (fun b hb => ?_) hI hD hC hID hDC hl₃ hns₃ ⟨[], ⟨rfl, fun j y h => by simp at h⟩, rfl, (fun _ h => nomatch h), rfl⟩ (by rw [List.size_toArray, hlen]; omega) rfl rfl ?_ ?_
  · simp only [List.mem_cons, List.not_mem_nil, or_false] at hb
    rcases hb with rfl | rfl
    · exact ⟨Nat.ne_of_lt hID, Nat.ne_of_lt (Nat.lt_trans hID hDC), Nat.ne_of_gt (Nat.lt_of_lt_of_le X.st.tab₀.2 hI.2.1)⟩
    · exact ⟨hrx _ hD.1, hrx _ hC.1, hrx _ X.st.gP⟩
  · rintro E' i g' s' m' ys v hi hv X' eg tn hns' hmv ⟨ps, hP, hpk, hpi, hpa⟩ low
    obtain ⟨a, r, rfl, hr, hkey⟩ := hks.get (by simpa using hv)
    have hil : i < (mergeK c1 c2).length := by rw [List.size_toArray, hlen] at hi; exact hi
    have hri : (mergeK c1 c2)[i] = r := by rw [List.getElem?_eq_getElem hil] at hr; exact Option.some.inj hr
    refine wpAny_tests_nil ?_
    rw [if_pos rfl]
    refine wpAny_Tuple (wpAny_items_cons (ldL hns' hmv (wpAny_items_cons (wpAny_BinOp ?_))))
    refine get_count hu (h1.ext eg) (fun Q' hq => ldC X'.c1 hq) (fun u' Q' hu' hq => ldL (hu' ▸ hns') hmv hq) X'.st.sub (hkey.ext (eg.trans X'.st.sub)) rfl rfl rfl fun t₁ tk₁ => ?_
    refine get_count (u := { s' with toks := tk₁ }) hu (h2.ext eg) (fun Q' hq => ldC X'.c2 hq) (fun u' Q' hu' hq => ldL (hu' ▸ hns') hmv hq) X'.st.sub (hkey.ext (eg.trans X'.st.sub)) rfl rfl rfl fun t₂ tk₂ => ?_
    refine add_int (wpAny_items_nil ⟨len_le_line (by simp), ?_⟩)
    dsimp only
    obtain ⟨g'', X₆, eg₆, tn₆, see⟩ := (X'.grown (tk := tk₂ + 1) (Ext.push s'.heap { cls := .type "tuple", data := .seq [Value.ref a, .int (getI c1 r + getI c2 r) tk₂].toArray })).see [I, D, C] tn
    have gT := see _ _ (Heap.get?_push_size _ rfl) X'.st.size (X'.apart (Nat.le_refl _)) (fun hm => absurd (low _ hm) (Nat.lt_irrefl _))
    refine ⟨g'', X₆, eg₆, tn₆, fun b o _ e => Heap.get?_push_of_some _ e, ps ++ [(r, a, .int (getI c1 r + getI c2 r) tk₂)], (hP.ext eg₆).push ⟨_, gT, rfl, 0, rfl⟩ (hkey.ext (eg.trans eg₆)), ?_, ?_, ?_⟩
    · rw [List.map_append, hpk, List.take_succ_eq_append_getElem hil, hri]; rfl
    · intro x hx
      rcases List.mem_append.mp hx with hx | hx
      · exact hpi x hx
      · rw [List.mem_singleton] at hx; subst hx; exact ⟨_, rfl⟩
    · have : (dueOf c1 c2)[i]? = some (r, getI c1 r + getI c2 r) := by unfold dueOf; rw [List.getElem?_map, hr]; rfl
      rw [List.take_add_one, this, ← hpa]
      simp [absI, intOf]
  · rintro g' s' m' ys X' eg tn hns' hlD ⟨ps, hP, hpk, hpi, hpa⟩
    refine ⟨rfl, _, hns', fun h₆ hs₆ => spliced_nil ?_⟩
    have X₆ := X'.tmp (tk := s'.toks) (tn C (by simp)) hC.2.1 hC.2.2 hs₆.extBut
    obtain ⟨nl, hl₆⟩ := hlD.extBut hs₆.extBut (Nat.ne_of_lt hDC)
    have hpk' : ps.map (·.1) = mergeK c1 c2 := by rw [hpk, List.take_of_length_le (by rw [List.size_toArray, hlen]; exact Nat.le_refl _)]
    have hpl : ps.length ≤ 5 := by rw [← List.length_map (f := (·.1)), hpk']; exact hshort
    refine call_dict_pairs (items := ys) (ps := ps) (n := nl) Rm.hd (by have := Rm.unit; omega) (by omega) (by rw [hpk']; exact hnd) hl₆ (hP.ext X₆.st.sub) fun h₇ tk₇ e₇ hsz₇ hd₇ => ?_
    have X₇ := X₆.grown (tk := tk₇) e₇
    refine stW X₇ fun s₈ X₈ hs₈ => ?_
    obtain ⟨g₉, X₉, eg₉, _, see⟩ := X₈.see [] (fun _ h => nomatch h)
    obtain ⟨o, ho⟩ : ∃ o, h₇.get? h₆.objs.size = some o := let ⟨o, _, _, ho, _⟩ := hd₇; ⟨o, ho⟩
    have hKL : h₆.objs.size ≠ L := fun h => X₆.apart (Nat.le_refl _) (by rw [show ({ s' with heap := h₆, toks := s'.toks } : Shared).heap.objs.size = L from h]; simp)
    have gK := see _ _ (hs₈.extBut _ _ hKL ho) X₆.st.size (X₆.apart (Nat.le_refl _)) (fun h => nomatch h)
    refine h g₉ s₈ h₆.objs.size X₉ (eg.trans eg₉) ⟨beq_eq_false_iff_ne.mpr (Nat.ne_of_gt (Nat.lt_of_lt_of_le hsz X₆.st.size)), ps, hd₇.seen (fun o' e => by rw [ho] at e; cases e; exact gK) (fun y hy => ?_), hpi, ?_, fun y hy => ?_⟩
    · obtain ⟨j, hj⟩ := List.mem_iff_getElem?.mp hy
      obtain ⟨_, _, _, h3⟩ := hP.2 j y hj
      exact h3.ext eg₉
    · rw [hpa, List.take_of_length_le]
      unfold dueOf
      rw [List.length_map, List.size_toArray, hlen]; exact Nat.le_refl _
    · exact hsm y.1 (by rw [← hpk']; exact List.mem_map.mpr ⟨y, hy, rfl⟩)
end
end Mine
/-! M29 -/
namespace Mine
open PySem PySem.W PyProof.Rows PySem.Calls
set_option maxRecDepth 100000

/-! ### sums of two -/
theorem merge_keys {c1 c2 : List (Int × Int)} (h1 : (keysG c1).Nodup) (h2 : (keysG c2).Nodup) : keysG (c2.foldl addI c1) = mergeK c1 c2 := by
  rw [← foldl_addI c1 c2 h1, keys_foldl _ c2 c1 h2]; rfl
theorem merge_getI {c1 c2 : List (Int × Int)} (h1 : (keysG c1).Nodup) (h2 : (keysG c2).Nodup) (k : Int) : getI (c2.foldl addI c1) k = getI c1 k + getI c2 k := by
  rw [← foldl_addI c1 c2 h1, getI_getG, getG_foldl _ c2 c1 h2, getI_getG, getI_getG]
  cases getG c1 k <;> cases getG c2 k <;> simp [joinG]
theorem merge_nodup {c1 c2 : List (Int × Int)} (h1 : (keysG c1).Nodup) (h2 : (keysG c2).Nodup) : (keysG (c2.foldl addI c1)).Nodup := by
  rw [← foldl_addI c1 c2 h1]; exact nodup_foldl _ h1 h2
theorem merge_mem {c1 c2 : List (Int × Int)} (h1 : (keysG c1).Nodup) (h2 : (keysG c2).Nodup) (k : Int) : k ∈ keysG (c2.foldl addI c1) ↔ k ∈ keysG c1 ∨ k ∈ keysG c2 := by
  rw [← foldl_addI c1 c2 h1]; exact mem_foldl _ h2 k
theorem merge_sum {c1 : List (Int × Int)} (c2 : List (Int × Int)) (h1 : (keysG c1).Nodup) : sumV (c2.foldl addI c1) = sumV c1 + sumV c2 := (fold_addI c2 c1 h1).2
theorem mergeK_mem {c1 c2 : List (Int × Int)} (k : Int) : k ∈ mergeK c1 c2 ↔ k ∈ keysG c1 ∨ k ∈ keysG c2 := by
  unfold mergeK
  rw [List.mem_append, List.mem_filter]
  by_cases h : k ∈ keysG c1 <;> simp [h]
theorem due_keys (c1 c2 : List (Int × Int)) : keysG (dueOf c1 c2) = mergeK c1 c2 := by
  unfold dueOf keysG
  rw [List.map_map]
  show List.map id _ = _
  rw [List.map_id]
theorem getI_zero {c : List (Int × Int)} {k : Int} (h : k ∉ keysG c) : getI c k = 0 := by rw [getI_getG, getG_none.mpr h]; rfl
theorem getG_table (F : Int → Int) (l : List Int) (k : Int) : getG (l.map fun k => (k, F k)) k = if k ∈ l then some (F k) else none := by
  induction l with
  | nil => rfl
  | cons a r ih =>
    rw [List.map_cons, getG_cons, ih]
    by_cases h : a = k
    · simp [h]
    · have : (k ∈ a :: r) ↔ k ∈ r := by simp [Ne.symm h]
      simp only [h, if_false, this]
theorem due_getI (c1 c2 : List (Int × Int)) (k : Int) : getI (dueOf c1 c2) k = getI c1 k + getI c2 k := by
  rw [getI_getG]
  unfold dueOf
  rw [getG_table (fun k => getI c1 k + getI c2 k)]
  by_cases h : k ∈ mergeK c1 c2
  · rw [if_pos h]; rfl
  · rw [if_neg h]
    rw [mergeK_mem, not_or] at h
    rw [getI_zero h.1, getI_zero h.2]; rfl

section
variable {prog : Program} {w : World} {A : Around} {E : Value → Shared → Prop} {s₀ s : Shared} {Z : Zone} {g : Heap} {L sc f : Addr} {cd : Value} {k1 k2 : Option Value} {m : Str → Option Value}

theorem keys_ne {l K : Addr} {vs ws : List Value} {rs : List Int} {Q : Value → Shared → Prop} (hu : A.units + 1 < cLine) (hl : s.heap.IsList l vs.toArray) (hK : s.heap.IsList K ws.toArray) (x : KeyRefs s.heap vs rs) (y : KeyRefs s.heap ws rs) (h : Q (.bool false) s) :
    wpAny (model prog w) A (compareOp .NotEq (.ref l) (.ref K)) Q E s := by
  refine list_ne_false hl hK (by simp [x.length, y.length]) (by omega) (fun j h1 h2 => ?_) h
  obtain ⟨a, r, e, hr, hk⟩ := x.get (j := j) (v := vs.toArray[j]) (by simp at h1; simp [h1])
  obtain ⟨a', r', e', hr', hk'⟩ := y.get (j := j) (v := ws.toArray[j]) (by simp at h2; simp [h2])
  rw [e, e']
  have : r = r' := by rw [hr] at hr'; exact Option.some.inj hr'
  subst this
  have := hk.eqAt (A := A.in1) hu hk'
  exact EqHere.of (by simpa using this)

theorem keyRefs_cnt {d : Addr} {c : List (Int × Int)} {Q : Value → Shared → Prop} (hh : A.handled = none) (X : Lw Z s₀ L sc k1 k2 g s m) (hc : Cnt prog w g d c)
    (h : ∀ s' l vs, Lw Z s₀ L sc k1 k2 g s' m → s'.heap.IsList l vs.toArray → KeyRefs s'.heap vs (keysG c) → Q (.ref l) s') : wpAny (model prog w) A (call (.type "list") [.ref d]) Q E s := by
  obtain ⟨h0, xs, hD, hI, rfl, hR⟩ := hc
  have := keys_short hD hR
  refine call_list_dict h0 hh (hD.ext X.st.sub) (by omega) fun h' tk n e hl => ?_
  have X' := X.grown (tk := tk) e
  refine h _ s.heap.objs.size (xs.map fun x => Value.ref x.2.1) X' ⟨_, hl, rfl, n, rfl⟩ ?_
  rw [show keysG (absI xs) = xs.map (·.1) from absI_keys xs]
  exact (KeyRefs.ofD hD).ext X'.st.sub

/-- if both != due or list(both) != keys or rows != before -/
theorem law_test1 {d1 d2 d3 e1 e2 e3 r b bo du K : Addr} {vs : List Value} {c1 c2 c3 : List (Int × Int)} {n : Nat} {Q : Flow → Shared → Prop} (Rm : Room A (n + 2)) (X : Lw Z s₀ L sc k1 k2 g s m)
    (h1 : Cnt prog w g d1 c1) (h2 : Cnt prog w g d2 c2) (h3 : Cnt prog w g d3 c3) (g1 : Cnt prog w g e1 c1) (g2 : Cnt prog w g e2 c2) (g3 : Cnt prog w g e3 c3) (hbo : Cnt prog w g bo (c2.foldl addI c1)) (hdu : Cnt prog w g du (dueOf c1 c2))
    (hr : g.IsList r #[.ref d1, .ref d2, .ref d3]) (hb : g.IsList b #[.ref e1, .ref e2, .ref e3]) (hK : g.IsList K vs.toArray) (hks : KeyRefs g vs (mergeK c1 c2))
    (mr : m (Str.ofString "rows") = some (.ref r)) (mb : m (Str.ofString "before") = some (.ref b)) (mbo : m (Str.ofString "both") = some (.ref bo)) (mdu : m (Str.ofString "due") = some (.ref du)) (mK : m (Str.ofString "keys") = some (.ref K))
    (h : ∀ s', Lw Z s₀ L sc k1 k2 g s' m → Q .next s') : wpAny (model prog w) A (exec (stmtL 6) (lawEnv L f cd)) Q E s := by
  have hu : A.units + 2 < cLine := by have := Rm.unit; omega
  refine wpAny_If (isTrue_or (wpAny_isTrue_Compare1 (ldL X.ns mbo (ldL X.ns mdu ?_))))
  refine cnt_ne (by omega) (hbo.ext X.st.sub) (hdu.ext X.st.sub) (fun k => by rw [merge_keys h1.nodup h2.nodup, due_keys]) (fun k => by rw [merge_getI h1.nodup h2.nodup, due_getI]) (wpAny_truthy_bool ?_)
  rw [if_neg Bool.false_ne_true]
  refine isTrue_or (wpAny_isTrue_Compare1 (wpAny_Call_Name_kw (ldBW X.W X.st.sub (by decide) rfl ?_)))
  refine PySem.callWith_type rfl (evalArgs_plain (spliced_cons (ldL X.ns mbo (spliced_nil ?_))))
  refine keyRefs_cnt Rm.hd X hbo fun s₁ l ws X₁ hl hws => ldL X₁.ns mK ?_
  rw [merge_keys h1.nodup h2.nodup] at hws
  refine keys_ne (by omega) hl (isList_ext hK X₁.st.sub) hws (hks.ext X₁.st.sub) (wpAny_truthy_bool ?_)
  rw [if_neg Bool.false_ne_true]
  refine isTrue_or (wpAny_isTrue_Compare1 (ldL X₁.ns mr (ldL X₁.ns mb ?_)))
  refine list_ne_false (isList_ext hr X₁.st.sub) (isList_ext hb X₁.st.sub) rfl (by omega) (fun j hj1 hj2 => ?_) (wpAny_truthy_bool ?_)
  · have hu' : A.in1.units + 1 < cLine := by show A.units + 1 + 1 < cLine; omega
    match j, hj1 with
    | 0, _ => exact cnt_eq hu' (h1.ext X₁.st.sub) (g1.ext X₁.st.sub)
    | 1, _ => exact cnt_eq hu' (h2.ext X₁.st.sub) (g2.ext X₁.st.sub)
    | 2, _ => exact cnt_eq hu' (h3.ext X₁.st.sub) (g3.ext X₁.st.sub)
  · rw [if_neg Bool.false_ne_true]
    refine isTrue_or_nil ?_
    rw [if_neg Bool.false_ne_true]
    exact wpAny_execs_nil (h _ X₁)

/-- if add_callers(second, first) != due or .. -/
theorem law_test2 {d1 d2 d3 bo du : Addr} {c1 c2 c3 : List (Int × Int)} {n : Nat} {Q : Flow → Shared → Prop} (Rm : Room A (n + 2)) (X : Lw Z s₀ L sc (some (.ref d1)) (some (.ref d2)) g s m) (hsz : sysModules < s₀.heap.objs.size)
    (h1 : Cnt prog w g d1 c1) (h2 : Cnt prog w g d2 c2) (h3 : Cnt prog w g d3 c3) (hbo : Cnt prog w g bo (c2.foldl addI c1)) (hdu : Cnt prog w g du (dueOf c1 c2))
    (mt : m (Str.ofString "third") = some (.ref d3)) (mbo : m (Str.ofString "both") = some (.ref bo)) (mdu : m (Str.ofString "due") = some (.ref du))
    (h : ∀ g' s', Lw Z s₀ L sc (some (.ref d1)) (some (.ref d2)) g' s' m → Ext g g' → Q .next s') : wpAny (model prog w) A (exec (stmtL 7) (lawEnv L f cd)) Q E s := by
  have hu : A.units + 2 < cLine := by have := Rm.unit; omega
  have n1 := h1.nodup
  have n2 := h2.nodup
  have n3 := h3.nodup
  refine wpAny_If (isTrue_or (wpAny_isTrue_Compare1 (wpAny_Call_Name_kw (ldG (mg := Z.mg) (X.W.g.keeps X.st.sub) X.W.gAdd (callW X.W.nAdd (spliced_cons (ldC X.c2 (spliced_cons (ldC X.c1 (spliced_nil ⟨X.st.sub, ?_⟩))))))))))
  refine addC (n := n) Rm X h2 h1 hsz fun ga sa a Xa ea ha => ldL Xa.ns mdu ?_
  refine cnt_ne (by omega) (ha.ext Xa.st.sub) ((hdu.ext ea).ext Xa.st.sub) (fun k => by rw [merge_mem n2 n1, due_keys, mergeK_mem]; exact Or.comm) (fun k => by rw [merge_getI n2 n1, due_getI]; omega) (wpAny_truthy_bool ?_)
  rw [if_neg Bool.false_ne_true]
  refine isTrue_or (wpAny_isTrue_Compare1 (wpAny_Call_Name_kw (ldG (mg := Z.mg) (Xa.W.g.keeps Xa.st.sub) Xa.W.gAdd (callW Xa.W.nAdd (spliced_cons (ldL Xa.ns mbo (spliced_cons (ldL Xa.ns mt (spliced_nil ⟨Xa.st.sub, ?_⟩)))))))))
  refine addC (n := n) Rm Xa (hbo.ext ea) (h3.ext ea) hsz fun gb sb b Xb eb hb => ?_
  refine wpAny_Call_Name_kw (ldG (mg := Z.mg) (Xb.W.g.keeps Xb.st.sub) Xb.W.gAdd (callW Xb.W.nAdd (spliced_cons (ldC Xb.c1 (spliced_cons ?_)))))
  refine wpAny_Call_Name_kw (ldG (mg := Z.mg) (Xb.W.g.keeps Xb.st.sub) Xb.W.gAdd (callW Xb.W.nAdd (spliced_cons (ldC Xb.c2 (spliced_cons (ldL Xb.ns mt (spliced_nil ⟨Xb.st.sub, ?_⟩)))))))
  refine addC (n := n) Rm Xb (h2.ext (ea.trans eb)) (h3.ext (ea.trans eb)) hsz fun gc sc' c Xc ec hc => spliced_nil ⟨ec.trans Xc.st.sub, ?_⟩
  refine addC (n := n) Rm Xc (h1.ext ((ea.trans eb).trans ec)) hc hsz fun gd sd d Xd ed hd => ?_
  have n12 := merge_nodup n1 n2
  have n23 := merge_nodup n2 n3
  refine cnt_ne (by omega) ((hb.ext (ec.trans ed)).ext Xd.st.sub) (hd.ext Xd.st.sub) (fun k => ?_) (fun k => ?_) (wpAny_truthy_bool ?_)
  · rw [merge_mem n12 n3, merge_mem n1 n2, merge_mem n1 n23, merge_mem n2 n3]; exact or_assoc
  · rw [merge_getI n12 n3, merge_getI n1 n2, merge_getI n1 n23, merge_getI n2 n3]; omega
  · rw [if_neg Bool.false_ne_true]
    refine isTrue_or_nil ?_
    rw [if_neg Bool.false_ne_true]
    exact wpAny_execs_nil (h gd _ Xd (((ea.trans eb).trans ec).trans ed))
end
end Mine
/-! M30 -/
namespace Mine
open PySem PySem.W PyProof.Rows PySem.Calls
set_option maxRecDepth 100000

section
variable {prog : Program} {w : World} {A : Around} {E : Value → Shared → Prop} {s₀ s : Shared} {Z : Zone} {g : Heap} {L sc f : Addr} {cd : Value} {k1 k2 : Option Value} {m : Str → Option Value}

theorem sum_ints {l : Addr} {vs : List Value} {ns : List Int} {Q : Value → Shared → Prop} (hh : A.handled = none) (hl : s.heap.IsList l vs.toArray) (hi : IntsAre vs ns)
    (h : ∀ h' tk t', Ext s.heap h' → Q (.int ns.sum t') { s with heap := h', toks := tk }) : wpAny (model prog w) A (call (.builtin "sum") [.ref l]) Q E s := by
  obtain ⟨xs, hx⟩ := hi.allInts.items
  rw [hx] at hl
  refine sum_intListG hh hl fun h' tk t' hk => ?_
  have e : preSum (numAt xs) xs.size = ns.sum := by
    rw [preSum_eq, List.take_of_length_le (by simp), ← nums_intItems, ← hx]
    show (numsOf vs).sum = _
    rw [hi.numsOf]
  rw [e]
  exact h h' tk t' hk

theorem cntC {d : Addr} {c : List (Int × Int)} {n : Nat} {Q : Value → Shared → Prop} (Rm : Room A (n + 2)) (X : Lw Z s₀ L sc k1 k2 g s m) (hc : Cnt prog w g d c)
    (h : ∀ g' s' t, Lw Z s₀ L sc k1 k2 g' s' m → Ext g g' → Q (.int (sumV c) t) s') : wpAny (model prog w) A (call (.ref Z.fCnt) [.ref d]) Q E s := by
  obtain ⟨cdC, hF⟩ := X.W.nCnt
  refine call_mine (cnt_spec (n := n) Rm X.st.start X.W hc) X.st hF fun v g' s' B _ => ?_
  obtain ⟨t, rfl⟩ := B.post
  exact h g' s' t (X.back B) B.ext

/-- if count_calls(add_callers(both, third)) != sum([number // 5 for number in script]) or count_calls({}) != 0 -/
theorem law_test3 {d1 d2 d3 bo : Addr} {vs : List Value} {ns : List Int} {c1 c2 c3 : List (Int × Int)} {n : Nat} {Q : Flow → Shared → Prop} (Rm : Room A (n + 2)) (X : Lw Z s₀ L sc (some (.ref d1)) (some (.ref d2)) g s m) (hsz : sysModules < s₀.heap.objs.size)
    (hl : g.IsList sc vs.toArray) (hi : IntsAre vs ns) (hlen : ns.length ≤ 63) (h1 : Cnt prog w g d1 c1) (h2 : Cnt prog w g d2 c2) (h3 : Cnt prog w g d3 c3) (hbo : Cnt prog w g bo (c2.foldl addI c1)) (hsum : sumV c1 + sumV c2 + sumV c3 = (ns.map (·.fdiv 5)).sum)
    (mt : m (Str.ofString "third") = some (.ref d3)) (mbo : m (Str.ofString "both") = some (.ref bo))
    (h : ∀ g' s', Lw Z s₀ L sc (some (.ref d1)) (some (.ref d2)) g' s' m → Ext g g' → Q .next s') : wpAny (model prog w) A (exec (stmtL 8) (lawEnv L f cd)) Q E s := by
  have n1 := h1.nodup
  have n2 := h2.nodup
  obtain ⟨cdC, hF⟩ := X.W.nCnt
  have hvl := hi.length
  refine wpAny_If (isTrue_or (wpAny_isTrue_Compare1 (wpAny_Call_Name_kw (ldG (mg := Z.mg) (X.W.g.keeps X.st.sub) X.W.gCnt (callW hF (spliced_cons ?_))))))
  refine wpAny_Call_Name_kw (ldG (mg := Z.mg) (X.W.g.keeps X.st.sub) X.W.gAdd (callW X.W.nAdd (spliced_cons (ldL X.ns mbo (spliced_cons (ldL X.ns mt (spliced_nil ⟨X.st.sub, ?_⟩)))))))
  refine addC (n := n) Rm X hbo h3 hsz fun ga sa a Xa ea ha => spliced_nil ⟨ea.trans Xa.st.sub, ?_⟩
  refine cntC (n := n) Rm Xa ha fun gb sb tb Xb eb => ?_
  rw [merge_sum c3 (merge_nodup n1 n2), merge_sum c2 n1, hsum]
  refine wpAny_Call_Name_kw (ldBW Xb.W Xb.st.sub (by decide) rfl ?_)
  refine callWith_builtin rfl (evalArgs_plain (spliced_cons ?_))
  refine lcomp (cl := []) rfl rfl (by decide) (ldC Xb.c0 ?_)
  have hlb : gb.IsList sc vs.toArray := isList_ext hl (ea.trans eb)
  refine wpAny_pyIter_list (isList_ext hlb Xb.st.sub) fun D C h₃ tk₃ CS => ?_
  dsimp only at CS
  obtain ⟨X₃, hI, hD, hC, hID, hDC⟩ := Xb.start (tk := tk₃) CS
  have hit₃ : h₃.IsListIter sb.heap.objs.size sc 0 := ⟨_, CS.ext _ _ (Heap.get?_push_size _ rfl), rfl, rfl⟩
  have hns₃ := CS.ns
  have hl₃ := CS.list
  clear CS
  generalize sb.heap.objs.size = I at *
  refine ⟨fun E' Q' hq => wpAny_pyIter_listiter hit₃ hq, ?_⟩
  have hrx : ∀ b, gb.get? b = none → sc ≠ b := fun b hb h => by
    obtain ⟨o, ho, _⟩ := hlb
    rw [h, hb] at ho; cases ho
  refine lw_loop (Inv := fun i g' ys => IntsAre ys ((ns.map (·.fdiv 5)).take i)) X₃ (Walks.list Rm.hd I sc (hrx _ hI.1) _) ⟨hit₃, isList_ext hlb X₃.st.sub⟩
    (fun b hb => ?_) hI hD hC hID hDC hl₃ hns₃ .nil (by rw [List.size_toArray, hvl]; omega) rfl rfl ?_ ?_
  · simp only [List.mem_cons, List.not_mem_nil, or_false] at hb
    rcases hb with rfl | rfl
    · exact ⟨Nat.ne_of_lt hID, Nat.ne_of_lt (Nat.lt_trans hID hDC), Nat.ne_of_gt (Nat.lt_of_lt_of_le X.st.tab₀.2 hI.2.1)⟩
    · exact ⟨hrx _ hD.1, hrx _ hC.1, hrx _ Xb.st.gP⟩
  · rintro E' i g' s' m' ys v hi' hv X' eg tn hns' hmv hInv low
    rw [List.size_toArray, hvl] at hi'
    obtain ⟨tn', hvn⟩ := intsAre_get hi (List.getElem?_eq_getElem hi')
    have : v = .int ns[i] tn' := by
      have h5 : vs[i]? = some v := by simpa using hv
      rw [h5] at hvn; exact Option.some.inj hvn
    subst this
    refine wpAny_tests_nil ?_
    rw [if_pos rfl]
    refine wpAny_BinOp (ldL hns' hmv (wpAny_Constant_int (floordiv_int (by decide) ?_)))
    refine ⟨g', X'.tok, Ext.refl _, tn, fun b o _ e => e, ?_⟩
    have e : (ns.map (·.fdiv 5))[i]? = some (ns[i].fdiv 5) := by rw [List.getElem?_map, List.getElem?_eq_getElem hi']; rfl
    show IntsAre _ (List.take (i + 1) _)
    rw [List.take_add_one, e]
    exact IntsAre.snoc hInv rfl
  · rintro g' s' m' ys X' eg tn hns' hlD hInv
    refine ⟨rfl, _, hns', fun h₆ hs₆ => spliced_nil ?_⟩
    have X₆ := X'.tmp (tk := s'.toks) (tn C (by simp)) hC.2.1 hC.2.2 hs₆.extBut
    have hl₆ := (hlD.extBut hs₆.extBut (Nat.ne_of_lt hDC)).isList
    rw [List.take_of_length_le (by rw [List.length_map, List.size_toArray, hvl]; exact Nat.le_refl _)] at hInv
    refine sum_ints Rm.hd hl₆ hInv fun h₇ tk₇ t₇ e₇ => ?_
    have X₇ := X₆.grown (tk := tk₇) e₇
    refine ne_int (wpAny_truthy_bool ?_)
    rw [bne_self_eq_false, if_neg Bool.false_ne_true]
    refine isTrue_or (wpAny_isTrue_Compare1 (wpAny_Call_Name_kw (ldG (mg := Z.mg) (X₇.W.g.keeps X₇.st.sub) X₇.W.gCnt (callW (hF.ext ((ea.trans eb).trans eg)) (spliced_cons (wpAny_Dict_empty ?_))))))
    obtain ⟨g₈, X₈, eg₈, _, see⟩ := (X₇.grown (tk := tk₇) (Ext.push h₇ { cls := .type "dict", data := .dict #[] })).see [] (fun _ h => nomatch h)
    have gd := see _ _ (Heap.get?_push_size _ rfl) X₇.st.size (X₇.apart (Nat.le_refl _)) (fun h => nomatch h)
    have hnew : Mine.D prog w (h₇.push { cls := .type "dict", data := .dict #[] }) h₇.objs.size [] := Mine.D.new h₇
    have hc0 : Cnt prog w g₈ h₇.objs.size [] := ⟨beq_eq_false_iff_ne.mpr (Nat.ne_of_gt (Nat.lt_of_lt_of_le hsz X₇.st.size)), [], hnew.seen (fun o' e => by rw [Heap.get?_push_size _ rfl] at e; cases e; exact gd) (fun _ h => nomatch h), (fun _ h => nomatch h), rfl, (fun _ h => nomatch h)⟩
    refine spliced_nil ⟨X₇.st.sub.trans (Ext.push _ _), ?_⟩
    refine cntC (n := n) Rm X₈ hc0 fun g₉ s₉ t₉ X₉ e₉ => wpAny_Constant_int (ne_int (wpAny_truthy_bool ?_))
    rw [show ((sumV ([] : List (Int × Int)) != 0) = false) from rfl, if_neg Bool.false_ne_true]
    refine isTrue_or_nil ?_
    rw [if_neg Bool.false_ne_true]
    exact wpAny_execs_nil (h g₉ _ X₉.tok ((((ea.trans eb).trans eg).trans eg₈).trans e₉))
end
end Mine
/-! M31 -/
namespace Mine
open PySem PySem.W PyProof.Rows PySem.Calls
set_option maxRecDepth 100000

theorem atKey_cons {k' : Int} {a : Addr} {v : Value} {xs : List Ent} {k : Int} : atKey ((k', a, v) :: xs) k = if k' = k then some (a, v) else atKey xs k := by
  unfold atKey
  rw [List.find?_cons]
  by_cases h : k' = k <;> simp [h]
theorem Ents.at {α : Type} {R : Value → α → Prop} {xs : List Ent} {c : List (Int × α)} (h : Ents R xs c) {k : Int} {x : α} (hx : getG c k = some x) : ∃ a v, atKey xs k = some (a, v) ∧ R v x := by
  induction h with
  | nil => rw [getG_nil] at hx; cases hx
  | cons hR _ ih =>
    rw [getG_cons] at hx
    rw [atKey_cons]
    split at hx
    · rename_i e
      rw [if_pos e]
      cases hx
      exact ⟨_, _, rfl, hR⟩
    · rename_i e
      rw [if_neg e]
      exact ih hx
theorem CntG.ext {α : Type} {R : Rep α} {prog : Program} {w : World} {h h' : Heap} {d : Addr} {c : List (Int × α)} (x : CntG R prog w h d c) (e : Ext h h') : CntG R prog w h' d c :=
  let ⟨h0, xs, hD, hE, hR⟩ := x; ⟨h0, xs, hD.ext e, hE.mono fun _ _ _ q => R.kept q (SeqKept.ext e), hR⟩
theorem CntG.nodup {α : Type} {R : Rep α} {prog : Program} {w : World} {h : Heap} {d : Addr} {c : List (Int × α)} (x : CntG R prog w h d c) : (keysG c).Nodup := by
  obtain ⟨_, xs, hD, hE, _⟩ := x
  rw [keysG, hE.keys]; exact hD.nodup

/-- each with its four -/
def fourL (c : List (Int × Int)) : List (Int × Four) := c.map fun p => (p.1, fourOf p.2)
def fourM (c1 c2 : List (Int × Int)) : List (Int × Four) := (fourL c2).foldl (addG addF) (fourL c1)
theorem fourL_keys (c : List (Int × Int)) : keysG (fourL c) = keysG c := by
  unfold fourL keysG
  rw [List.map_map]; rfl
theorem fourL_get (c : List (Int × Int)) (k : Int) : getG (fourL c) k = (getG c k).map fourOf := by
  induction c with
  | nil => rfl
  | cons p r ih =>
    show getG ((p.1, fourOf p.2) :: fourL r) k = _
    rw [getG_cons, getG_cons, ih]
    by_cases h : p.1 = k <;> simp [h]
theorem fourM_keys {c1 c2 : List (Int × Int)} (h2 : (keysG c2).Nodup) : keysG (fourM c1 c2) = mergeK c1 c2 := by
  unfold fourM
  rw [keys_foldl _ _ _ (by rw [fourL_keys]; exact h2), fourL_keys, fourL_keys]; rfl
def timesOf (c1 c2 : List (Int × Int)) (k : Int) : Int := (if decide (k ∈ keysG c1) = true then 1 else 0) + (if decide (k ∈ keysG c2) = true then 1 else 0)
theorem fourM_get {c1 c2 : List (Int × Int)} (h2 : (keysG c2).Nodup) {k : Int} (hk : k ∈ mergeK c1 c2) : getG (fourM c1 c2) k = some (getI c1 k + getI c2 k, timesOf c1 c2 k, 2 * (getI c1 k + getI c2 k), 0 - (getI c1 k + getI c2 k)) := by
  unfold fourM
  rw [getG_foldl _ _ _ (by rw [fourL_keys]; exact h2), fourL_get, fourL_get]
  rw [mergeK_mem] at hk
  unfold timesOf
  rw [getI_getG, getI_getG]
  cases q1 : getG c1 k with
  | none =>
    have m1 : k ∉ keysG c1 := getG_none.mp q1
    cases q2 : getG c2 k with
    | none =>
      have m2 : k ∉ keysG c2 := getG_none.mp q2
      rcases hk with h | h
      · exact absurd h m1
      · exact absurd h m2
    | some b =>
      have m2 : k ∈ keysG c2 := by
        rcases Classical.em (k ∈ keysG c2) with h | h
        · exact h
        · rw [getG_none.mpr h] at q2; cases q2
      simp only [Option.map_none, Option.map_some, joinG, fourOf, Option.getD_none, Option.getD_some, m1, m2, decide_true, decide_false, if_true]
      congr 1
      refine Prod.ext ?_ (Prod.ext ?_ (Prod.ext ?_ ?_)) <;> simp
  | some a =>
    have m1 : k ∈ keysG c1 := by
      rcases Classical.em (k ∈ keysG c1) with h | h
      · exact h
      · rw [getG_none.mpr h] at q1; cases q1
    cases q2 : getG c2 k with
    | none =>
      have m2 : k ∉ keysG c2 := getG_none.mp q2
      simp only [Option.map_none, Option.map_some, joinG, fourOf, Option.getD_none, Option.getD_some, m1, m2, decide_true, decide_false, if_true]
      congr 1
      refine Prod.ext ?_ (Prod.ext ?_ (Prod.ext ?_ ?_)) <;> simp
    | some b =>
      have m2 : k ∈ keysG c2 := by
        rcases Classical.em (k ∈ keysG c2) with h | h
        · exact h
        · rw [getG_none.mpr h] at q2; cases q2
      simp only [Option.map_some, joinG, fourOf, addF, Option.getD_some, m1, m2, decide_true, if_true]
      congr 1
      refine Prod.ext ?_ (Prod.ext ?_ (Prod.ext ?_ ?_)) <;> simp <;> omega

section
variable {prog : Program} {w : World} {A : Around} {E : Value → Shared → Prop} {s₀ s : Shared} {Z : Zone} {g : Heap} {L sc f : Addr} {cd : Value} {k1 k2 : Option Value} {m : Str → Option Value}

theorem cnt_at {h : Heap} {d : Addr} {c : List (Int × Int)} {k : Int} (x : Cnt prog w h d c) (hk : k ∈ keysG c) : ∃ xs a t, D prog w h d xs ∧ atKey xs k = some (a, .int (getI c k) t) := by
  obtain ⟨_, xs, hD, hI, rfl, _⟩ := x
  rw [keysG, absI_keys] at hk
  have hs := atKey_isSome.mpr hk
  cases hp : atKey xs k with
  | none => rw [hp] at hs; cases hs
  | some p =>
    obtain ⟨t', ht'⟩ := atKey_get hI k 0
    rw [hp] at ht'
    simp only [Option.map_some, Option.getD_some] at ht'
    exact ⟨xs, p.1, t', hD, by rw [hp, ← ht']⟩

/-- fours = add_callers(_law_fours(first), _law_fours(second)) -/
theorem law_fours {d1 d2 : Addr} {c1 c2 : List (Int × Int)} {n : Nat} {Q : Flow → Shared → Prop} (Rm : Room A (n + 2)) (X : Lw Z s₀ L sc (some (.ref d1)) (some (.ref d2)) g s m) (hgp : Z.gp = genPos) (h1 : Cnt prog w g d1 c1) (h2 : Cnt prog w g d2 c2) (hsz : sysModules < s₀.heap.objs.size)
    (h : ∀ g' s' d, Lw Z s₀ L sc (some (.ref d1)) (some (.ref d2)) g' s' (fun y => if y = Str.ofString "fours" then some (.ref d) else m y) → Ext g g' → CntG repF prog w g' d (fourM c1 c2) → Q .next s') :
    wpAny (model prog w) A (exec (stmtL 9) (lawEnv L f cd)) Q E s := by
  obtain ⟨cdF, hF⟩ := X.W.nFours
  refine wpAny_Assign_Name (wpAny_Call_Name_kw (ldG (mg := Z.mg) (X.W.g.keeps X.st.sub) X.W.gAdd (callW X.W.nAdd (spliced_cons ?_))))
  refine wpAny_Call_Name_kw (ldG (mg := Z.mg) (X.W.g.keeps X.st.sub) X.W.gFours (callW hF (spliced_cons (ldC X.c1 (spliced_nil ⟨X.st.sub, ?_⟩)))))
  refine call_mine (fours_spec (n := n) Rm X.st.start X.W h1 (Nat.lt_of_lt_of_le hsz X.st.size)) X.st hF fun v ga sa Ba _ => ?_
  obtain ⟨da, rfl, _, ha⟩ := Ba.post
  have Xa := X.back Ba
  have ea := Ba.ext
  refine spliced_cons (wpAny_Call_Name_kw (ldG (mg := Z.mg) (Xa.W.g.keeps Xa.st.sub) Xa.W.gFours (callW (hF.ext ea) (spliced_cons (ldC Xa.c2 (spliced_nil ⟨Xa.st.sub, ?_⟩))))))
  refine call_mine (fours_spec (n := n) Rm Xa.st.start Xa.W (h2.ext ea) (Nat.lt_of_lt_of_le hsz Xa.st.size)) Xa.st (hF.ext ea) fun v gb sb Bb _ => ?_
  obtain ⟨db, rfl, _, hb⟩ := Bb.post
  have Xb := Xa.back Bb
  have eb := Bb.ext
  refine spliced_nil ⟨(ea.trans eb).trans Xb.st.sub, ?_⟩
  refine call_mine (add_spec (Rp := repF) (f := addF) (n := n) Rm Xb.st.start Xb.W (ha.ext eb) hb (Nat.lt_of_lt_of_le hsz Xb.st.size) (inner_fours Xb.W hgp)) Xb.st Xb.W.nAdd fun v gc sc' Bc _ => ?_
  obtain ⟨dc, rfl, _, hc⟩ := Bc.post
  exact stW (Xb.back Bc) fun s' X' _ => h gc s' dc X' ((ea.trans eb).trans Bc.ext) hc

/-- if list(fours) != keys -/
theorem law_test4 {fo K : Addr} {vs : List Value} {c1 c2 : List (Int × Int)} {n : Nat} {Q : Flow → Shared → Prop} (Rm : Room A (n + 2)) (X : Lw Z s₀ L sc k1 k2 g s m) (hfo : CntG repF prog w g fo (fourM c1 c2)) (n2 : (keysG c2).Nodup) (hK : g.IsList K vs.toArray) (hks : KeyRefs g vs (mergeK c1 c2))
    (mf : m (Str.ofString "fours") = some (.ref fo)) (mK : m (Str.ofString "keys") = some (.ref K)) (h : ∀ s', Lw Z s₀ L sc k1 k2 g s' m → Q .next s') : wpAny (model prog w) A (exec (stmtL 10) (lawEnv L f cd)) Q E s := by
  have hu : A.units + 2 < cLine := by have := Rm.unit; omega
  have hkk := fourM_keys (c1 := c1) n2
  obtain ⟨h0, xs, hD, hE, hR⟩ := hfo
  have := keys_short hD hR
  rw [keysG, hE.keys] at hkk
  refine wpAny_If (wpAny_isTrue_Compare1 (wpAny_Call_Name_kw (ldBW X.W X.st.sub (by decide) rfl ?_)))
  refine PySem.callWith_type rfl (evalArgs_plain (spliced_cons (ldL X.ns mf (spliced_nil ?_))))
  refine call_list_dict h0 Rm.hd (hD.ext X.st.sub) (by omega) fun h' tk nn e hl => ?_
  have X' := X.grown (tk := tk) e
  refine ldL X'.ns mK (keys_ne (by omega) (vs := xs.map fun x => Value.ref x.2.1) ⟨_, hl, rfl, nn, rfl⟩ (isList_ext hK X'.st.sub) ?_ (hks.ext X'.st.sub) (wpAny_truthy_bool ?_))
  · rw [← hkk]
    exact (KeyRefs.ofD hD).ext X'.st.sub
  · rw [if_neg Bool.false_ne_true]
    exact wpAny_execs_nil (h _ X')
end
end Mine
/-! M32 -/
namespace Mine
open PySem PySem.W PyProof.Rows PySem.Calls
set_option maxRecDepth 100000

theorem atKey_dec {xs : List Ent} {k : Int} : (atKey xs k).isSome = decide (k ∈ keysG (absI xs)) := by
  have : (atKey xs k).isSome = true ↔ k ∈ keysG (absI xs) := by rw [keysG, absI_keys]; exact atKey_isSome
  by_cases h : k ∈ keysG (absI xs)
  · rw [this.mpr h]; simp [h]
  · have h' : (atKey xs k).isSome = false := by
      cases q : (atKey xs k).isSome with
      | true => exact absurd (this.mp q) h
      | false => rfl
    rw [h']; simp [h]

section
variable {prog : Program} {w : World} {A : Around} {E : Value → Shared → Prop} {s₀ s : Shared} {Z : Zone} {g : Heap} {L sc f : Addr} {cd : Value} {k1 k2 : Option Value} {m : Str → Option Value}

theorem tuples_ne {a b : Addr} {items items2 : Array Value} {Q : Value → Shared → Prop} (hu : A.units < cLine) (ha : s.heap.IsTuple a items) (hb : s.heap.IsTuple b items2) (hs : items.size = items2.size)
    (he : ∀ j (h1 : j < items.size) (h2 : j < items2.size), SeqAt.EqAt A.in1 s items[j] items2[j] true) (h : Q (.bool false) s) : wpAny (model prog w) A (compareOp .NotEq (.ref a) (.ref b)) Q E s := by
  show wpAny _ _ (richCompare .NotEq (.ref a) (.ref b)) _ _ _
  refine SeqAt.RcNeAt.tuples (e := fun _ => true) ha hb hu he prog w E Q ?_
  have : (!((List.range (min items.size items2.size)).all (fun _ => true) && items.size == items2.size)) = false := by simp [hs]
  rw [this]; exact h
theorem eq_same {A : Around} {s : Shared} {a : Int} {t u : Tok} : SeqAt.EqAt A s (.int a t) (.int a u) true := by
  have := SeqAt.EqAt.int_int (A := A) (s := s) a t a u
  simpa using this

/-- for key in keys: .. -/
theorem law_loop {d1 d2 fo du K : Addr} {vs : List Value} {c1 c2 : List (Int × Int)} {n : Nat} {Q : Flow → Shared → Prop} (Rm : Room A (n + 2)) (X : Lw Z s₀ L sc (some (.ref d1)) (some (.ref d2)) g s m)
    (h1 : Cnt prog w g d1 c1) (h2 : Cnt prog w g d2 c2) (hfo : CntG repF prog w g fo (fourM c1 c2)) (hdu : Cnt prog w g du (dueOf c1 c2)) (hK : g.IsList K vs.toArray) (hks : KeyRefs g vs (mergeK c1 c2))
    (mf : m (Str.ofString "fours") = some (.ref fo)) (mdu : m (Str.ofString "due") = some (.ref du)) (mK : m (Str.ofString "keys") = some (.ref K))
    (h : ∀ s' m', Lw Z s₀ L sc (some (.ref d1)) (some (.ref d2)) g s' m' → (∀ y, y ≠ Str.ofString "key" → y ≠ Str.ofString "times" → m' y = m y) → Q .next s') : wpAny (model prog w) A (exec (stmtL 11) (lawEnv L f cd)) Q E s := by
  have hu : A.in1.units < cLine := by have := Rm.unit; show A.units + 1 < cLine; omega
  have hu0 : A.units < cLine := by have := Rm.unit; omega
  have n2 := h2.nodup
  obtain ⟨hS1, xs1, hD1, hI1, rfl, hR1⟩ := h1
  obtain ⟨hS2, xs2, hD2, hI2, rfl, hR2⟩ := h2
  obtain ⟨hSf, xf, hDf, hEf, hRf⟩ := hfo
  refine wpAny_For (ldL X.ns mK (wpAny_pyIter_list (isList_ext hK X.st.sub) ?_))
  have X₁ := X.grown (tk := s.toks) (Ext.push s.heap { cls := .type "list_iterator", data := .fields #[.ref K, .int 0 0] })
  have hit₁ : (s.heap.push { cls := .type "list_iterator", data := .fields #[.ref K, .int 0 0] }).IsListIter s.heap.objs.size K 0 := ⟨_, Heap.get?_push_size _ rfl, rfl, rfl⟩
  have git : g.get? s.heap.objs.size = none := fresh_none X.st (Nat.le_refl _)
  have itn : s₀.heap.objs.size ≤ s.heap.objs.size := X.st.size
  have ito := X.apart (Nat.le_refl s.heap.objs.size)
  generalize s.heap.objs.size = it at *
  refine codeAny_forLoop (fun k s' => ∃ i m', k = vs.length - i ∧ i ≤ vs.length ∧ Lw Z s₀ L sc (some (.ref d1)) (some (.ref d2)) g s' m' ∧ (∀ y, y ≠ Str.ofString "key" → y ≠ Str.ofString "times" → m' y = m y) ∧ s'.heap.IsListIter it K i) ?_ vs.length
    ⟨0, m, rfl, Nat.zero_le _, X₁, fun _ _ _ => rfl, hit₁⟩
  clear X₁ hit₁
  rintro k s' ⟨i, m', rfl, hile, X', hm', hit⟩
  by_cases hlt : i < vs.length
  · refine wpAny_pyNext_list_item hit (isList_ext hK X'.st.sub) (x := vs[i]) (by simp [hlt]) fun h₅ hit₅ hs₅ => ?_
    have X₅ := X'.tmp (tk := s'.toks) git itn ito hs₅.extBut
    obtain ⟨a, r, hv, hr, hkey⟩ := hks.get (List.getElem?_eq_getElem hlt)
    rw [hv]
    have hrm : r ∈ mergeK (absI xs1) (absI xs2) := List.mem_of_getElem? hr
    refine wpAny_assign_Name (stW X₅ fun s₆ X₆ hs₆ => ?_)
    have hLi : it ≠ L := fun h => ito (by rw [h]; simp)
    have hit₆ := hit₅.extBut hs₆.extBut hLi
    have hk₆ : IsKey s₆.heap r a := hkey.ext X₆.st.sub
    refine wpAny_execs_cons (wpAny_Assign_Name (wpAny_BinOp (wpAny_Call_Name_kw (ldBW X₆.W X₆.st.sub (by decide) rfl ?_))))
    refine PySem.callWith_type rfl (evalArgs_plain (spliced_cons (wpAny_Compare1 (ldL X₆.ns rfl (ldC X₆.c1 (wpAny_in_heap (kk_room hu) (kk_is.mpr hk₆) hS1 (hD1.ext X₆.st.sub) (spliced_nil ?_)))))))
    refine call_int_bool ?_
    dsimp only
    refine wpAny_Call_Name_kw (ldBW X₆.W X₆.st.sub (by decide) rfl ?_)
    refine PySem.callWith_type rfl (evalArgs_plain (spliced_cons (wpAny_Compare1 (ldL X₆.ns rfl (ldC X₆.c2 (wpAny_in_heap (kk_room hu) (kk_is.mpr hk₆) hS2 (hD2.ext X₆.st.sub) (spliced_nil ?_)))))))
    refine call_int_bool (add_int ?_)
    rw [atKey_dec, atKey_dec]
    dsimp only
    generalize s₆.toks + (kk prog w).draws r + 1 + (kk prog w).draws r + 1 = tk₆
    refine stW (X₆.tok (tk := tk₆ + 1)) fun s₇ X₇ hs₇ => ?_
    have hit₇ := hit₆.extBut hs₇.extBut hLi
    have hk₇ : IsKey s₇.heap r a := hkey.ext X₇.st.sub
    obtain ⟨af, vf, haf, p, rfl, b1, b2, b3, b4, ht4⟩ := hEf.at (fourM_get n2 hrm)
    obtain ⟨xd, ad, td, hDd, had⟩ := cnt_at hdu (k := r) (by rw [due_keys]; exact hrm)
    rw [due_getI] at had
    have hDf₇ := hDf.ext X₇.st.sub
    have hDd₇ := hDd.ext X₇.st.sub
    have mf' : (fun y => if y = Str.ofString "times" then some (Value.int ((if decide (r ∈ keysG (absI xs1)) = true then 1 else 0) + if decide (r ∈ keysG (absI xs2)) = true then 1 else 0) tk₆) else if y = Str.ofString "key" then some (Value.ref a) else m' y) (Str.ofString "fours") = some (.ref fo) := by
      show m' _ = _
      rw [hm' _ (by decide) (by decide)]; exact mf
    have md' : (fun y => if y = Str.ofString "times" then some (Value.int ((if decide (r ∈ keysG (absI xs1)) = true then 1 else 0) + if decide (r ∈ keysG (absI xs2)) = true then 1 else 0) tk₆) else if y = Str.ofString "key" then some (Value.ref a) else m' y) (Str.ofString "due") = some (.ref du) := by
      show m' _ = _
      rw [hm' _ (by decide) (by decide)]; exact mdu
    refine wpAny_execs_cons (wpAny_If (wpAny_isTrue_Compare1 (wpAny_Subscript_Name_late (ldL X₇.ns mf' (ldL X₇.ns rfl (sub_dict (kk_room hu) hk₇ hDf₇ haf fun tk₈ => ?_))))))
    refine wpAny_Tuple (wpAny_items_cons (wpAny_Subscript_Name_late (ldL X₇.ns md' (ldL X₇.ns rfl (sub_dict (kk_room hu) hk₇ hDd₇ had fun tk₉ => ?_)))))
    refine wpAny_items_cons (ldL X₇.ns rfl ?_)
    refine wpAny_items_cons (wpAny_BinOp (wpAny_Constant_int (wpAny_Subscript_Name_late (ldL X₇.ns md' (ldL X₇.ns rfl (sub_dict (kk_room hu) hk₇ hDd₇ had fun tk₁₀ => mul_int ?_))))))
    refine wpAny_items_cons (wpAny_BinOp (wpAny_Constant_int (wpAny_Subscript_Name_late (ldL X₇.ns md' (ldL X₇.ns rfl (sub_dict (kk_room hu) hk₇ hDd₇ had fun tk₁₁ => sub_int ?_))))))
    refine wpAny_items_nil ⟨len_le_line (by simp), ?_⟩
    dsimp only
    have X₈ := X₇.grown (tk := tk₁₁ + 1) (Ext.push s₇.heap { cls := .type "tuple", data := .seq [Value.int (getI (absI xs1) r + getI (absI xs2) r) td, .int ((if decide (r ∈ keysG (absI xs1)) = true then 1 else 0) + if decide (r ∈ keysG (absI xs2)) = true then 1 else 0) tk₆, .int (2 * (getI (absI xs1) r + getI (absI xs2) r)) tk₁₀, .int (0 - (getI (absI xs1) r + getI (absI xs2) r)) tk₁₁].toArray })
    refine tuples_ne hu0 (isTuple_ext ht4 X₈.st.sub) ⟨_, Heap.get?_push_size _ rfl, rfl, 0, rfl⟩ rfl (fun j hj1 hj2 => ?_) (wpAny_truthy_bool ?_)
    · match j, hj1 with
      | 0, _ => exact eq_same
      | 1, _ => exact eq_same
      | 2, _ => exact eq_same
      | 3, _ => exact eq_same
    · rw [if_neg Bool.false_ne_true]
      refine wpAny_execs_nil (wpAny_execs_nil ⟨vs.length - (i + 1), by omega, i + 1, _, rfl, hlt, X₈, fun y hy1 hy2 => ?_, hit₇.at fun o e => Heap.get?_push_of_some _ e⟩)
      show (if y = Str.ofString "times" then _ else if y = Str.ofString "key" then _ else m' y) = _
      rw [if_neg hy2, if_neg hy1]
      exact hm' y hy1 hy2
  · have hin : i = vs.length := by omega
    refine wpAny_pyNext_list_end Rm.hd hit (isList_ext hK X'.st.sub) (by rw [hin]; simp) fun h₅ he => ?_
    exact wpAny_execs_nil (h _ m' (X'.tmp (tk := s'.toks) git itn ito he) hm')
end
end Mine
/-! M33 -/
namespace Mine
open PySem PySem.W PyProof.Rows PySem.Calls
set_option maxRecDepth 100000

section
variable {prog : Program} {w : World} {A : Around} {E : Value → Shared → Prop} {s₀ s : Shared} {Z : Zone} {g : Heap} {L sc f : Addr} {cd : Value} {k1 k2 : Option Value} {m : Str → Option Value}

theorem eq_of {A : Around} {s : Shared} {a b : Int} {t u : Tok} (h : a = b) : SeqAt.EqAt A s (.int a t) (.int b u) true := h ▸ eq_same

/-- one = (1, len(script), sum(script), 3, first) -/
theorem law_one {d1 : Addr} {vs : List Value} {ns : List Int} {n : Nat} {Q : Flow → Shared → Prop} (Rm : Room A n) (X : Lw Z s₀ L sc (some (.ref d1)) k2 g s m) (hl : g.IsList sc vs.toArray) (hi : IntsAre vs ns) (hlen : ns.length ≤ 63)
    (h : ∀ g' s' T u1 u2 u3 u4, Lw Z s₀ L sc (some (.ref d1)) k2 g' s' (fun y => if y = Str.ofString "one" then some (.ref T) else m y) → Ext g g' → g'.IsTuple T #[.int 1 u1, .int ns.length u2, .int ns.sum u3, .int 3 u4, .ref d1] → Q .next s') :
    wpAny (model prog w) A (exec (stmtL 12) (lawEnv L f cd)) Q E s := by
  have hvl := hi.length
  refine wpAny_Assign_Name (wpAny_Tuple (wpAny_items_cons (wpAny_Constant_int ?_)))
  refine wpAny_items_cons (wpAny_Call_Name_kw (ldBW X.W X.st.sub (by decide) rfl (callWith_builtin rfl (evalArgs_plain (spliced_cons (ldC X.c0 (spliced_nil ?_)))))))
  refine call_len_list (isList_ext hl X.st.sub) (by simp [hvl]; omega) ?_
  rw [show ((vs.toArray.size : Nat) : Int) = ((ns.length : Nat) : Int) by rw [List.size_toArray, hvl]]
  have X₁ := X.tok (tk := s.toks + 1 + 1 + 1)
  refine wpAny_items_cons (wpAny_Call_Name_kw (ldBW X.W X.st.sub (by decide) rfl (callWith_builtin rfl (evalArgs_plain (spliced_cons (ldC X.c0 (spliced_nil ?_)))))))
  refine sum_ints Rm.hd (isList_ext hl X.st.sub) hi fun h₂ tk₂ t₂ e₂ => ?_
  have X₂ := X₁.grown (tk := tk₂) e₂
  refine wpAny_items_cons (wpAny_Constant_int (wpAny_items_cons (ldC X₂.c1 (wpAny_items_nil ⟨len_le_line (by simp), ?_⟩))))
  dsimp only
  have X₃ := X₂.grown (tk := tk₂ + 1) (Ext.push h₂ { cls := .type "tuple", data := .seq [Value.int 1 s.toks, .int ns.length (s.toks + 1 + 1), .int ns.sum t₂, .int 3 tk₂, .ref d1].toArray })
  refine stW X₃ fun s₄ X₄ hs₄ => ?_
  obtain ⟨g₅, X₅, eg₅, _, see⟩ := X₄.see [] (fun _ h => nomatch h)
  have hTL : h₂.objs.size ≠ L := fun h => X₂.apart (Nat.le_refl _) (by rw [show ({ s with heap := h₂, toks := tk₂ } : Shared).heap.objs.size = L from h]; simp)
  have gT := see _ _ (hs₄.extBut _ _ hTL (Heap.get?_push_size _ rfl)) X₂.st.size (X₂.apart (Nat.le_refl _)) (fun h => nomatch h)
  exact h g₅ s₄ _ _ _ _ _ X₅ eg₅ ⟨_, gT, rfl, 0, rfl⟩

/-- other = (2, 5, 7, 0 - 4, second) -/
theorem law_other {d2 : Addr} {Q : Flow → Shared → Prop} (X : Lw Z s₀ L sc k1 (some (.ref d2)) g s m)
    (h : ∀ g' s' T u1 u2 u3 u4, Lw Z s₀ L sc k1 (some (.ref d2)) g' s' (fun y => if y = Str.ofString "other" then some (.ref T) else m y) → Ext g g' → g'.IsTuple T #[.int 2 u1, .int 5 u2, .int 7 u3, .int (0 - 4) u4, .ref d2] → Q .next s') :
    wpAny (model prog w) A (exec (stmtL 13) (lawEnv L f cd)) Q E s := by
  refine wpAny_Assign_Name ?_
  refine wpAny_Tuple ?_
  refine wpAny_items_cons ?_
  refine wpAny_Constant_int ?_
  refine wpAny_items_cons ?_
  refine wpAny_Constant_int ?_
  refine wpAny_items_cons ?_
  refine wpAny_Constant_int ?_
  refine wpAny_items_cons (wpAny_BinOp (wpAny_Constant_int (wpAny_Constant_int (sub_int ?_))))
  have X₁ := X.tok (tk := s.toks + 1 + 1 + 1 + 1 + 1 + 1)
  refine wpAny_items_cons (ldC X.c2 (wpAny_items_nil ⟨len_le_line (by simp), ?_⟩))
  dsimp only
  have X₃ := X.grown (tk := s.toks + 1 + 1 + 1 + 1 + 1 + 1) (Ext.push s.heap { cls := .type "tuple", data := .seq [Value.int 2 s.toks, .int 5 (s.toks + 1), .int 7 (s.toks + 1 + 1), .int (0 - 4) (s.toks + 1 + 1 + 1 + 1 + 1), .ref d2].toArray })
  refine stW X₃ fun s₄ X₄ hs₄ => ?_
  obtain ⟨g₅, X₅, eg₅, _, see⟩ := X₄.see [] (fun _ h => nomatch h)
  have hTL : s.heap.objs.size ≠ L := fun h => X.apart (Nat.le_refl _) (by rw [h]; simp)
  have gT := see _ _ (hs₄.extBut _ _ hTL (Heap.get?_push_size _ rfl)) X.st.size (X.apart (Nat.le_refl _)) (fun h => nomatch h)
  exact h g₅ s₄ _ _ _ _ _ X₅ eg₅ ⟨_, gT, rfl, 0, rfl⟩

/-- if add_func_stats(one, other)[:4] != (3, len(script) + 5, sum(script) + 7, 0 - 1) or add_func_stats(one, other)[4] != due -/
theorem law_test5 {d1 d2 T1 T2 du : Addr} {vs : List Value} {ns : List Int} {c1 c2 : List (Int × Int)} {u1 u2 u3 u4 v1 v2 v3 v4 : Tok} {n : Nat} {Q : Flow → Shared → Prop} (Rm : Room A (n + 4)) (X : Lw Z s₀ L sc k1 k2 g s m) (hsz : sysModules < s₀.heap.objs.size)
    (hl : g.IsList sc vs.toArray) (hi : IntsAre vs ns) (hlen : ns.length ≤ 63) (h1 : Cnt prog w g d1 c1) (h2 : Cnt prog w g d2 c2) (hdu : Cnt prog w g du (dueOf c1 c2))
    (hT1 : g.IsTuple T1 #[.int 1 u1, .int ns.length u2, .int ns.sum u3, .int 3 u4, .ref d1]) (hT2 : g.IsTuple T2 #[.int 2 v1, .int 5 v2, .int 7 v3, .int (0 - 4) v4, .ref d2])
    (m1 : m (Str.ofString "one") = some (.ref T1)) (m2 : m (Str.ofString "other") = some (.ref T2)) (mdu : m (Str.ofString "due") = some (.ref du))
    (h : ∀ g' s', Lw Z s₀ L sc k1 k2 g' s' m → Ext g g' → Q .next s') : wpAny (model prog w) A (exec (stmtL 14) (lawEnv L f cd)) Q E s := by
  have hu : A.units + 2 < cLine := by have := Rm.unit; omega
  have hvl := hi.length
  obtain ⟨cdA, hF⟩ := X.W.nAfs
  refine wpAny_If (isTrue_or (wpAny_isTrue_Compare1 (slice_to ?_)))
  refine wpAny_Call_Name_kw (ldG (mg := Z.mg) (X.W.g.keeps X.st.sub) X.W.gAfs (callW hF (spliced_cons (ldL X.ns m1 (spliced_cons (ldL X.ns m2 (spliced_nil ⟨X.st.sub, ?_⟩)))))))
  refine call_mine (afs_spec (n := n) Rm X.st.start X.W hT1 hT2 h1 h2 (Nat.lt_of_lt_of_le hsz X.st.size)) X.st hF fun v ga sa Ba _ => ?_
  obtain ⟨T, d, w1, w2, w3, w4, rfl, hTa, _⟩ := Ba.post
  have Xa := X.back Ba
  have ea := Ba.ext
  refine wpAny_Constant_int ⟨T, _, _, 4, _, rfl, rfl, isTuple_ext hTa Xa.st.sub, by show 4 < 5; decide, by decide, rfl, fun h₃ T4 e₃ hT4 hs₃ gT => ?_⟩
  obtain ⟨gb, Xb, eb, _, see⟩ := (Xa.grown (tk := sa.toks + 1) e₃).see [] (fun _ h => nomatch h)
  have gT4 := see _ _ gT (Nat.le_trans Xa.st.size hT4) (Xa.apart hT4) (fun h => nomatch h)
  have hlb : gb.IsList sc vs.toArray := isList_ext hl (ea.trans eb)
  clear see gT
  refine wpAny_Tuple (wpAny_items_cons (wpAny_Constant_int ?_))
  refine wpAny_items_cons (wpAny_BinOp (wpAny_Call_Name_kw (ldBW Xb.W Xb.st.sub (by decide) rfl (callWith_builtin rfl (evalArgs_plain (spliced_cons (ldC Xb.c0 (spliced_nil ?_))))))))
  refine call_len_list (isList_ext hlb Xb.st.sub) (by simp [hvl]; omega) (wpAny_Constant_int (add_int ?_))
  rw [show ((vs.toArray.size : Nat) : Int) = ((ns.length : Nat) : Int) by rw [List.size_toArray, hvl]]
  refine wpAny_items_cons (wpAny_BinOp (wpAny_Call_Name_kw (ldBW Xb.W Xb.st.sub (by decide) rfl (callWith_builtin rfl (evalArgs_plain (spliced_cons (ldC Xb.c0 (spliced_nil ?_))))))))
  dsimp only
  refine sum_ints (s := { sa with heap := h₃, toks := _ }) Rm.hd (isList_ext hlb Xb.st.sub) hi fun h₄ tk₄ t₄ e₄ => wpAny_Constant_int (add_int ?_)
  have Xc := Xb.grown (tk := tk₄) e₄
  refine wpAny_items_cons (wpAny_BinOp (wpAny_Constant_int (wpAny_Constant_int (sub_int ?_))))
  refine wpAny_items_nil ⟨len_le_line (by simp), ?_⟩
  dsimp only
  refine tuples_ne (items := #[.int (2 + 1) w1, .int (5 + ns.length) w2, .int (7 + ns.sum) w3, .int (0 - 4 + 3) w4]) (by omega) ⟨_, Heap.get?_push_of_some _ (e₄ _ _ (Xb.st.sub _ _ gT4)), rfl, 0, rfl⟩ ⟨_, Heap.get?_push_size _ rfl, rfl, 0, rfl⟩ rfl (fun j hj1 hj2 => ?_) (wpAny_truthy_bool ?_)
  · match j, hj1 with
    | 0, _ => exact eq_of rfl
    | 1, _ => exact eq_of (Int.add_comm _ _)
    | 2, _ => exact eq_of (Int.add_comm _ _)
    | 3, _ => exact eq_of rfl
  · rw [if_neg Bool.false_ne_true]
    have Xd := Xc.grown (tk := tk₄ + 1 + 1 + 1 + 1 + 1) (Ext.push h₄ { cls := .type "tuple", data := .seq [Value.int 3 (sa.toks + 1), .int ((ns.length : Nat) + 5) (sa.toks + 1 + 1 + 1 + 1 + 1), .int (ns.sum + 7) (tk₄ + 1), .int (0 - 1) (tk₄ + 1 + 1 + 1 + 1)].toArray })
    refine isTrue_or (wpAny_isTrue_Compare1 (sub_on ?_))
    have eab := ea.trans eb
    refine wpAny_Call_Name_kw (ldG (mg := Z.mg) (Xd.W.g.keeps Xd.st.sub) Xd.W.gAfs (callW (hF.ext eab) (spliced_cons (ldL Xd.ns m1 (spliced_cons (ldL Xd.ns m2 (spliced_nil ⟨Xd.st.sub, ?_⟩)))))))
    refine call_mine (afs_spec (n := n) Rm Xd.st.start Xd.W (isTuple_ext hT1 eab) (isTuple_ext hT2 eab) (h1.ext eab) (h2.ext eab) (Nat.lt_of_lt_of_le hsz Xd.st.size)) Xd.st (hF.ext eab) fun v ge se Be _ => ?_
    obtain ⟨T', d', w1', w2', w3', w4', rfl, hTe, hce⟩ := Be.post
    have Xe := Xd.back Be
    refine wpAny_Constant_int ⟨⟨_, rfl⟩, item_tup (isTuple_ext hTe Xe.st.sub) (j := 4) rfl rfl ?_⟩
    have Xf := Xe.tok (tk := se.toks + 1)
    refine ldL Xf.ns mdu (cnt_ne (by omega) (hce.ext Xf.st.sub) ((hdu.ext (eab.trans Be.ext)).ext Xf.st.sub) (fun k => by rw [merge_keys h1.nodup h2.nodup, due_keys]) (fun k => by rw [merge_getI h1.nodup h2.nodup, due_getI]) (wpAny_truthy_bool ?_))
    rw [if_neg Bool.false_ne_true]
    refine isTrue_or_nil ?_
    rw [if_neg Bool.false_ne_true]
    exact wpAny_execs_nil (h ge _ Xf (eab.trans Be.ext))
end
end Mine
/-! M34 -/
namespace Mine
open PySem PySem.W PyProof.Rows PySem.Calls
set_option maxRecDepth 100000

def nameAt : Nat → Str
  | 0 => Str.ofString "<len>"
  | 1 => Str.ofString "len"
  | 2 => Str.ofString "<len"
  | 3 => Str.ofString "len>"
  | _ => Str.ofString "<>"
def toldAt : Nat → Str
  | 0 => Str.ofString "{len}"
  | 1 => Str.ofString "len"
  | 2 => Str.ofString "<len"
  | 3 => Str.ofString "len>"
  | _ => Str.ofString "{}"
theorem told_is (k : Nat) : stdText (Str.ofString "~") 0 (nameAt k) = toldAt k := by
  match k with
  | 0 => decide +kernel
  | 1 => decide +kernel
  | 2 => decide +kernel
  | 3 => decide +kernel
  | k + 4 => show stdText (Str.ofString "~") 0 (Str.ofString "<>") = Str.ofString "{}"; decide +kernel
theorem name_short (k : Nat) : (nameAt k).length ≤ 10 := by
  match k with
  | 0 => decide +kernel
  | 1 => decide +kernel
  | 2 => decide +kernel
  | 3 => decide +kernel
  | k + 4 => show (Str.ofString "<>").length ≤ 10; decide +kernel
theorem str_assoc (a b c : Str) : a ++ b ++ c = a ++ (b ++ c) := by
  have : (a ++ b ++ c).cps = (a ++ (b ++ c)).cps := by simp [Str.cps_append, Array.append_assoc]
  exact congrArg Str.mk this
theorem empty_left {x y : Str} (h : x.length = 0) : x ++ y = y := by
  have hx : x.cps = #[] := Array.size_eq_zero_iff.mp h
  have : (x ++ y).cps = y.cps := by rw [Str.cps_append, hx, Array.empty_append]
  exact congrArg Str.mk this
theorem empty_right {x y : Str} (h : y.length = 0) : x ++ y = x := by
  have hy : y.cps = #[] := Array.size_eq_zero_iff.mp h
  have : (x ++ y).cps = x.cps := by rw [Str.cps_append, hy, Array.append_empty]
  exact congrArg Str.mk this
theorem log_small {a : Int} (h0 : 0 ≤ a) (h : a ≤ 100000) : a.natAbs.log2 < 1920 := by
  rcases Nat.eq_zero_or_pos a.natAbs with h1 | h1
  · rw [h1]; decide
  · have h2 : a.natAbs < 2 ^ 17 := by omega
    exact Nat.lt_trans ((Nat.log2_lt (by omega)).mpr h2) (by decide)

section
variable {prog : Program} {w : World} {A : Around} {E : Value → Shared → Prop} {s₀ s : Shared} {Z : Zone} {g : Heap} {L sc f : Addr} {cd : Value} {k1 k2 : Option Value} {m : Str → Option Value}

theorem cat {x y : Str} {t u : Tok} {Q : Value → Shared → Prop} (hx : x.length ≤ 1000) (hy : y.length ≤ 1000) (h : ∀ t' tk, Q (.str (x ++ y) t') { s with toks := tk }) : wpAny (model prog w) A (binaryOp .Add (.str x t) (.str y u)) Q E s := by
  exact add_str h (by rw [sizeLine_eq]; omega)

theorem item5 {tk0 tk1 tk2 tk3 tk4 : Tok} (F : Nat → Str) (k : Int) : ∃ t, ([Value.str (F 0) tk0, .str (F 1) tk1, .str (F 2) tk2, .str (F 3) tk3, .str (F 4) tk4] : List Value)[(k.fmod 5).toNat]? = some (.str (F (k.fmod 5).toNat) t) := by
  have h := fmod5_small k
  unfold Small at h
  have : (k.fmod 5).toNat < 5 := by omega
  match (k.fmod 5).toNat, this with
  | 0, _ => exact ⟨_, rfl⟩
  | 1, _ => exact ⟨_, rfl⟩
  | 2, _ => exact ⟨_, rfl⟩
  | 3, _ => exact ⟨_, rfl⟩
  | 4, _ => exact ⟨_, rfl⟩

/-- name = [..][sum(script) % 5] -/
theorem law_name {vs : List Value} {ns : List Int} {n : Nat} {Q : Flow → Shared → Prop} (Rm : Room A n) (X : Lw Z s₀ L sc k1 k2 g s m) (hl : g.IsList sc vs.toArray) (hi : IntsAre vs ns)
    (h : ∀ s' t, Lw Z s₀ L sc k1 k2 g s' (fun y => if y = Str.ofString "name" then some (.str (nameAt (ns.sum.fmod 5).toNat) t) else m y) → Q .next s') :
    wpAny (model prog w) A (exec (stmtL 15) (lawEnv L f cd)) Q E s := by
  have hsm := fmod5_small ns.sum
  unfold Small at hsm
  refine wpAny_Assign_Name ?_
  refine sub_on ?_
  refine wpAny_List ?_
  refine wpAny_items_cons ?_
  refine wpAny_Constant_str ?_
  refine wpAny_items_cons ?_
  refine wpAny_Constant_str ?_
  refine wpAny_items_cons ?_
  refine wpAny_Constant_str ?_
  refine wpAny_items_cons ?_
  refine wpAny_Constant_str ?_
  refine wpAny_items_cons ?_
  refine wpAny_Constant_str ?_
  refine wpAny_items_nil ⟨len_le_line (by simp), ?_⟩
  dsimp only
  have X₁ := X.grown (tk := s.toks + 1 + 1 + 1 + 1 + 1) (Ext.push s.heap { cls := .type "list", data := .seq [Value.str (nameAt 0) s.toks, .str (nameAt 1) (s.toks + 1), .str (nameAt 2) (s.toks + 1 + 1), .str (nameAt 3) (s.toks + 1 + 1 + 1), .str (nameAt 4) (s.toks + 1 + 1 + 1 + 1)].toArray })
  have hl1 : (s.heap.push { cls := .type "list", data := .seq [Value.str (nameAt 0) s.toks, .str (nameAt 1) (s.toks + 1), .str (nameAt 2) (s.toks + 1 + 1), .str (nameAt 3) (s.toks + 1 + 1 + 1), .str (nameAt 4) (s.toks + 1 + 1 + 1 + 1)].toArray }).IsList s.heap.objs.size
      [Value.str (nameAt 0) s.toks, .str (nameAt 1) (s.toks + 1), .str (nameAt 2) (s.toks + 1 + 1), .str (nameAt 3) (s.toks + 1 + 1 + 1), .str (nameAt 4) (s.toks + 1 + 1 + 1 + 1)].toArray := ⟨_, Heap.get?_push_size _ rfl, rfl, 0, rfl⟩
  refine wpAny_BinOp (wpAny_Call_Name_kw (ldBW X₁.W X₁.st.sub (by decide) rfl (callWith_builtin rfl (evalArgs_plain (spliced_cons (ldC X₁.c0 (spliced_nil ?_)))))))
  refine sum_ints Rm.hd (isList_ext hl X₁.st.sub) hi fun h₂ tk₂ t₂ e₂ => ?_
  have X₂ := X₁.grown (tk := tk₂ + 1 + 1) e₂
  refine wpAny_Constant_int (mod_int' (by decide) ?_)
  obtain ⟨t, ht⟩ := item5 (tk0 := s.toks) (tk1 := s.toks + 1) (tk2 := s.toks + 1 + 1) (tk3 := s.toks + 1 + 1 + 1) (tk4 := s.toks + 1 + 1 + 1 + 1) nameAt ns.sum
  exact ⟨⟨_, rfl⟩, item_list (isList_ext hl1 e₂) hsm.1 (by omega) ht (stW X₂ fun s₃ X₃ _ => h s₃ t X₃)⟩

/-- told = [..][sum(script) % 5] -/
theorem law_told {vs : List Value} {ns : List Int} {n : Nat} {Q : Flow → Shared → Prop} (Rm : Room A n) (X : Lw Z s₀ L sc k1 k2 g s m) (hl : g.IsList sc vs.toArray) (hi : IntsAre vs ns)
    (h : ∀ s' t, Lw Z s₀ L sc k1 k2 g s' (fun y => if y = Str.ofString "told" then some (.str (toldAt (ns.sum.fmod 5).toNat) t) else m y) → Q .next s') :
    wpAny (model prog w) A (exec (stmtL 16) (lawEnv L f cd)) Q E s := by
  have hsm := fmod5_small ns.sum
  unfold Small at hsm
  refine wpAny_Assign_Name ?_
  refine sub_on ?_
  refine wpAny_List ?_
  refine wpAny_items_cons ?_
  refine wpAny_Constant_str ?_
  refine wpAny_items_cons ?_
  refine wpAny_Constant_str ?_
  refine wpAny_items_cons ?_
  refine wpAny_Constant_str ?_
  refine wpAny_items_cons ?_
  refine wpAny_Constant_str ?_
  refine wpAny_items_cons ?_
  refine wpAny_Constant_str ?_
  refine wpAny_items_nil ⟨len_le_line (by simp), ?_⟩
  dsimp only
  have X₁ := X.grown (tk := s.toks + 1 + 1 + 1 + 1 + 1) (Ext.push s.heap { cls := .type "list", data := .seq [Value.str (toldAt 0) s.toks, .str (toldAt 1) (s.toks + 1), .str (toldAt 2) (s.toks + 1 + 1), .str (toldAt 3) (s.toks + 1 + 1 + 1), .str (toldAt 4) (s.toks + 1 + 1 + 1 + 1)].toArray })
  have hl1 : (s.heap.push { cls := .type "list", data := .seq [Value.str (toldAt 0) s.toks, .str (toldAt 1) (s.toks + 1), .str (toldAt 2) (s.toks + 1 + 1), .str (toldAt 3) (s.toks + 1 + 1 + 1), .str (toldAt 4) (s.toks + 1 + 1 + 1 + 1)].toArray }).IsList s.heap.objs.size
      [Value.str (toldAt 0) s.toks, .str (toldAt 1) (s.toks + 1), .str (toldAt 2) (s.toks + 1 + 1), .str (toldAt 3) (s.toks + 1 + 1 + 1), .str (toldAt 4) (s.toks + 1 + 1 + 1 + 1)].toArray := ⟨_, Heap.get?_push_size _ rfl, rfl, 0, rfl⟩
  refine wpAny_BinOp (wpAny_Call_Name_kw (ldBW X₁.W X₁.st.sub (by decide) rfl (callWith_builtin rfl (evalArgs_plain (spliced_cons (ldC X₁.c0 (spliced_nil ?_)))))))
  refine sum_ints Rm.hd (isList_ext hl X₁.st.sub) hi fun h₂ tk₂ t₂ e₂ => ?_
  have X₂ := X₁.grown (tk := tk₂ + 1 + 1) e₂
  refine wpAny_Constant_int (mod_int' (by decide) ?_)
  obtain ⟨t, ht⟩ := item5 (tk0 := s.toks) (tk1 := s.toks + 1) (tk2 := s.toks + 1 + 1) (tk3 := s.toks + 1 + 1 + 1) (tk4 := s.toks + 1 + 1 + 1 + 1) toldAt ns.sum
  exact ⟨⟨_, rfl⟩, item_list (isList_ext hl1 e₂) hsm.1 (by omega) ht (stW X₂ fun s₃ X₃ _ => h s₃ t X₃)⟩

/-- line = sum(script) % 10000 -/
theorem law_line {vs : List Value} {ns : List Int} {n : Nat} {Q : Flow → Shared → Prop} (Rm : Room A n) (X : Lw Z s₀ L sc k1 k2 g s m) (hl : g.IsList sc vs.toArray) (hi : IntsAre vs ns)
    (h : ∀ s' t, Lw Z s₀ L sc k1 k2 g s' (fun y => if y = Str.ofString "line" then some (.int (ns.sum.fmod 10000) t) else m y) → Q .next s') :
    wpAny (model prog w) A (exec (stmtL 17) (lawEnv L f cd)) Q E s := by
  refine wpAny_Assign_Name (wpAny_BinOp (wpAny_Call_Name_kw (ldBW X.W X.st.sub (by decide) rfl (callWith_builtin rfl (evalArgs_plain (spliced_cons (ldC X.c0 (spliced_nil ?_))))))))
  refine sum_ints Rm.hd (isList_ext hl X.st.sub) hi fun h₂ tk₂ t₂ e₂ => ?_
  have X₂ := X.grown (tk := tk₂ + 1 + 1) e₂
  refine wpAny_Constant_int (mod_int' (by decide) ?_)
  exact stW X₂ fun s₃ X₃ _ => h s₃ _ X₃
end
end Mine
/-! M35 -/
namespace Mine
open PySem PySem.W PyProof.Rows PySem.Calls
set_option maxRecDepth 100000

def textOf (P : Str) (k : Int) (name : Str) : Str := P ++ Str.ofString (toString k) ++ Str.ofString "(" ++ name ++ Str.ofString ")"
theorem std_py (k : Int) (name : Str) : stdText (Str.ofString "a.py") k name = textOf (Str.ofString "a.py:") k name := by
  unfold stdText textOf
  rw [show (Str.ofString "a.py" == Str.ofString "~") = false by decide +kernel, Bool.false_and, if_neg Bool.false_ne_true, show Str.ofString "a.py" ++ Str.ofString ":" = Str.ofString "a.py:" by decide +kernel]
theorem std_tilde {k : Int} (h : 0 ≤ k) (name : Str) : stdText (Str.ofString "~") (1 + k) name = textOf (Str.ofString "~:") (1 + k) name := by
  unfold stdText textOf
  rw [show ((1 + k) == 0) = false by rw [beq_eq_false_iff_ne]; omega, Bool.and_false, if_neg Bool.false_ne_true, show Str.ofString "~" ++ Str.ofString ":" = Str.ofString "~:" by decide +kernel]

section
variable {prog : Program} {w : World} {A : Around} {E : Value → Shared → Prop} {s₀ s : Shared} {Z : Zone} {g : Heap} {L sc f : Addr} {cd : Value} {k1 k2 : Option Value} {m : Str → Option Value}

theorem str_ne_same {x y : Str} {t u : Tok} {Q : Value → Shared → Prop} (e : x = y) (h : Q (.bool false) s) : wpAny (model prog w) A (compareOp .NotEq (.str x t) (.str y u)) Q E s := by
  subst e
  refine PySem.P.ne_str ?_
  rw [bne_self_eq_false]; exact h
theorem str_eq_same {x y : Str} {t u : Tok} {Q : Value → Shared → Prop} (e : x = y) (h : Q (.bool true) s) : wpAny (model prog w) A (compareOp .Eq (.str x t) (.str y u)) Q E s := by
  subst e
  refine PySem.P.eq_str ?_
  rw [beq_self_eq_true]; exact h

/-- func_std_string of a new tuple -/
theorem stdC {fs name : Str} {k : Int} {t1 t2 t3 : Tok} {tk n : Nat} {Q : Value → Shared → Prop} (Rm : Room A (n + 2)) (X : Lw Z s₀ L sc k1 k2 g s m) (hf : fs.length ≤ 1000) (hn0 : 0 ≤ k) (hn1 : k < 10 ^ 10) (hname : name.length ≤ 1000)
    (h : ∀ g' s' t, Lw Z s₀ L sc k1 k2 g' s' m → Ext g g' → Q (.str (stdText fs k name) t) s') :
    wpAny (model prog w) A (call (.ref Z.fStd) [.ref s.heap.objs.size]) Q E { s with heap := s.heap.push { cls := .type "tuple", data := .seq #[.str fs t1, .int k t2, .str name t3] }, toks := tk } := by
  obtain ⟨cdS, hF⟩ := X.W.nStd
  obtain ⟨g₁, X₁, e₁, _, see⟩ := (X.grown (tk := tk) (Ext.push s.heap { cls := .type "tuple", data := .seq #[.str fs t1, .int k t2, .str name t3] })).see [] (fun _ h => nomatch h)
  have gT := see _ _ (Heap.get?_push_size _ rfl) X.st.size (X.apart (Nat.le_refl _)) (fun h => nomatch h)
  refine call_mine (std_spec (n := n) Rm X₁.st.start X₁.W ⟨_, gT, rfl, 0, rfl⟩ hf hn0 hn1 hname) X₁.st (hF.ext e₁) fun v g' s' B _ => ?_
  obtain ⟨t, rfl⟩ := B.post
  exact h g' s' t (X₁.back B) (e₁.trans B.ext)

theorem num_short {k : Int} (h0 : 0 ≤ k) (h : k ≤ 100000) : (Str.ofString (toString k)).length ≤ 10 := toString_length_le h0 (by decide) (by omega)

/-- if func_std_string(('~', 0, name)) != told or func_std_string(('a.py', line, name)) != .. -/
theorem law_test6 {i : Nat} {k : Int} {tn tt tl : Tok} {n : Nat} {Q : Flow → Shared → Prop} (Rm : Room A (n + 2)) (X : Lw Z s₀ L sc k1 k2 g s m) (hk0 : 0 ≤ k) (hk : k < 10000)
    (mn : m (Str.ofString "name") = some (.str (nameAt i) tn)) (mt : m (Str.ofString "told") = some (.str (toldAt i) tt)) (ml : m (Str.ofString "line") = some (.int k tl))
    (h : ∀ g' s', Lw Z s₀ L sc k1 k2 g' s' m → Ext g g' → Q .next s') : wpAny (model prog w) A (exec (stmtL 18) (lawEnv L f cd)) Q E s := by
  obtain ⟨cdS, hF⟩ := X.W.nStd
  have hns := name_short i
  refine wpAny_If ?_
  refine isTrue_or ?_
  refine wpAny_isTrue_Compare1 ?_
  refine wpAny_Call_Name_kw (ldG (mg := Z.mg) (X.W.g.keeps X.st.sub) X.W.gStd (callW hF (spliced_cons ?_)))
  refine wpAny_Tuple (k := 0) ?_
  refine wpAny_items_cons ?_
  refine wpAny_Constant_str ?_
  refine wpAny_items_cons ?_
  refine wpAny_Constant_int ?_
  refine wpAny_items_cons (ldL X.ns mn (wpAny_items_nil ⟨len_le_line (by simp), ?_⟩))
  refine spliced_nil ⟨X.st.sub.trans (Ext.push _ _), ?_⟩
  dsimp only
  refine stdC (s := { s with toks := _ }) (n := n) Rm X.tok (by decide +kernel) (Int.le_refl 0) (by decide) (by omega) fun ga sa ta Xa ea => ?_
  refine ldL Xa.ns mt (str_ne_same (told_is i) (wpAny_truthy_bool ?_))
  rw [if_neg Bool.false_ne_true]
  refine isTrue_or ?_
  refine wpAny_isTrue_Compare1 ?_
  refine wpAny_Call_Name_kw (ldG (mg := Z.mg) (Xa.W.g.keeps Xa.st.sub) Xa.W.gStd (callW (hF.ext ea) (spliced_cons ?_)))
  refine wpAny_Tuple (k := 0) ?_
  refine wpAny_items_cons ?_
  refine wpAny_Constant_str ?_
  refine wpAny_items_cons (ldL Xa.ns ml (wpAny_items_cons (ldL Xa.ns mn (wpAny_items_nil ⟨len_le_line (by simp), ?_⟩))))
  refine spliced_nil ⟨Xa.st.sub.trans (Ext.push _ _), ?_⟩
  dsimp only
  refine stdC (s := { sa with toks := _ }) (n := n) Rm Xa.tok (by decide +kernel) hk0 (by omega) (by omega) fun gb sb tb Xb eb => ?_
  refine wpAny_BinOp ?_
  refine wpAny_BinOp ?_
  refine wpAny_BinOp ?_
  refine wpAny_BinOp ?_
  refine wpAny_Constant_str ?_
  refine wpAny_Call_Name_kw (ldBW Xb.W Xb.st.sub (by decide) rfl ?_)
  refine PySem.callWith_type rfl (evalArgs_plain (spliced_cons (ldL Xb.ns ml (spliced_nil ?_))))
  have l1 := num_short hk0 (by omega)
  refine PySem.P.str_of_int (log_small hk0 (by omega)) ?_
  refine cat (by decide +kernel) (Nat.le_trans l1 (by decide)) fun t1 u1 => ?_
  refine wpAny_Constant_str ?_
  have l2 : (Str.ofString "a.py:" ++ Str.ofString (toString k)).length ≤ 20 := by rw [Str.length_append]; exact Nat.add_le_add (show (Str.ofString "a.py:").length ≤ 10 by decide +kernel) l1
  refine cat (Nat.le_trans l2 (by decide)) (by decide +kernel) fun t2 u2 => ?_
  refine ldL Xb.ns mn ?_
  have l3 : (Str.ofString "a.py:" ++ Str.ofString (toString k) ++ Str.ofString "(").length ≤ 30 := by rw [Str.length_append]; exact Nat.add_le_add l2 (show (Str.ofString "(").length ≤ 10 by decide +kernel)
  refine cat (Nat.le_trans l3 (by decide)) (by omega) fun t3 u3 => ?_
  refine wpAny_Constant_str ?_
  have l4 : (Str.ofString "a.py:" ++ Str.ofString (toString k) ++ Str.ofString "(" ++ nameAt i).length ≤ 40 := by rw [Str.length_append]; exact Nat.add_le_add l3 hns
  refine cat (Nat.le_trans l4 (by decide)) (by decide +kernel) fun t4 u4 => ?_
  refine str_ne_same (std_py k (nameAt i)) (wpAny_truthy_bool ?_)
  rw [if_neg Bool.false_ne_true]
  refine isTrue_or_nil ?_
  rw [if_neg Bool.false_ne_true]
  exact wpAny_execs_nil (h gb _ (Xb.tok (tk := u4)) (ea.trans eb))

/-- return func_std_string(('~', 1 + line, name)) == .. -/
theorem law_end {i : Nat} {k : Int} {tn tl : Tok} {n : Nat} {Q : Flow → Shared → Prop} (Rm : Room A (n + 2)) (X : Lw Z s₀ L sc k1 k2 g s m) (hk0 : 0 ≤ k) (hk : k < 10000)
    (mn : m (Str.ofString "name") = some (.str (nameAt i) tn)) (ml : m (Str.ofString "line") = some (.int k tl))
    (h : ∀ g' s', Lw Z s₀ L sc k1 k2 g' s' m → Ext g g' → Q (.ret (.bool true)) s') : wpAny (model prog w) A (exec (stmtL 19) (lawEnv L f cd)) Q E s := by
  obtain ⟨cdS, hF⟩ := X.W.nStd
  have hns := name_short i
  refine wpAny_Return_some ?_
  refine wpAny_Compare1 ?_
  refine wpAny_Call_Name_kw (ldG (mg := Z.mg) (X.W.g.keeps X.st.sub) X.W.gStd (callW hF (spliced_cons ?_)))
  refine wpAny_Tuple (k := 0) ?_
  refine wpAny_items_cons ?_
  refine wpAny_Constant_str ?_
  refine wpAny_items_cons ?_
  refine wpAny_BinOp ?_
  refine wpAny_Constant_int ?_
  refine ldL X.ns ml (add_int ?_)
  refine wpAny_items_cons (ldL X.ns mn (wpAny_items_nil ⟨len_le_line (by simp), ?_⟩))
  refine spliced_nil ⟨X.st.sub.trans (Ext.push _ _), ?_⟩
  dsimp only
  refine stdC (s := { s with toks := _ }) (n := n) Rm X.tok (by decide +kernel) (by omega) (by omega) (by omega) fun gb sb tb Xb eb => ?_
  refine wpAny_BinOp ?_
  refine wpAny_BinOp ?_
  refine wpAny_BinOp ?_
  refine wpAny_BinOp ?_
  refine wpAny_Constant_str ?_
  refine wpAny_Call_Name_kw (ldBW Xb.W Xb.st.sub (by decide) rfl ?_)
  refine PySem.callWith_type rfl (evalArgs_plain (spliced_cons ?_))
  refine wpAny_BinOp ?_
  refine wpAny_Constant_int ?_
  refine ldL Xb.ns ml (add_int (spliced_nil ?_))
  have l1 := num_short (k := 1 + k) (by omega) (by omega)
  refine PySem.P.str_of_int (log_small (by omega) (by omega)) ?_
  refine cat (by decide +kernel) (Nat.le_trans l1 (by decide)) fun t1 u1 => ?_
  refine wpAny_Constant_str ?_
  have l2 : (Str.ofString "~:" ++ Str.ofString (toString (1 + k))).length ≤ 20 := by rw [Str.length_append]; exact Nat.add_le_add (show (Str.ofString "~:").length ≤ 10 by decide +kernel) l1
  refine cat (Nat.le_trans l2 (by decide)) (by decide +kernel) fun t2 u2 => ?_
  refine ldL Xb.ns mn ?_
  have l3 : (Str.ofString "~:" ++ Str.ofString (toString (1 + k)) ++ Str.ofString "(").length ≤ 30 := by rw [Str.length_append]; exact Nat.add_le_add l2 (show (Str.ofString "(").length ≤ 10 by decide +kernel)
  refine cat (Nat.le_trans l3 (by decide)) (by omega) fun t3 u3 => ?_
  refine wpAny_Constant_str ?_
  have l4 : (Str.ofString "~:" ++ Str.ofString (toString (1 + k)) ++ Str.ofString "(" ++ nameAt i).length ≤ 40 := by rw [Str.length_append]; exact Nat.add_le_add l3 hns
  refine cat (Nat.le_trans l4 (by decide)) (by decide +kernel) fun t4 u4 => ?_
  exact str_eq_same (std_tilde hk0 (nameAt i)) (h gb _ (Xb.tok (tk := u4)) eb)
end
end Mine
/-! M36 -/
namespace Mine
open PySem PySem.W PyProof.Rows PySem.Calls
set_option maxRecDepth 100000

theorem law_body : bodyOf dLaw = [stmtL 0, stmtL 1, stmtL 2, stmtL 3, stmtL 4, stmtL 5, stmtL 6, stmtL 7, stmtL 8, stmtL 9, stmtL 10, stmtL 11, stmtL 12, stmtL 13, stmtL 14, stmtL 15, stmtL 16, stmtL 17, stmtL 18, stmtL 19] := rfl

section
variable {prog : Program} {w : World} {A : Around} {E : Value → Shared → Prop} {s₀ s : Shared} {Z : Zone} {g : Heap}

theorem cnt_small {h : Heap} {d : Addr} {c : List (Int × Int)} (x : Cnt prog w h d c) : ∀ k ∈ keysG c, Small k := by
  obtain ⟨_, xs, _, _, rfl, hR⟩ := x
  intro k hk
  rw [keysG, absI_keys] at hk
  obtain ⟨y, hy, rfl⟩ := List.mem_map.mp hk
  exact hR y hy

set_option maxHeartbeats 8000000 in
/-- the law -/
theorem law_spec {fl sc : Addr} {cd : Value} {vs : List Value} {ns : List Int} {n : Nat} (Rm : Room A (n + 6)) (S : St Z g s s) (W : WF Z g) (hgp : Z.gp = genPos) (hF : FnAt g fl dLaw lawS cd) (hl : g.IsList sc vs.toArray) (hi : IntsAre vs ns) (hlen : ns.length ≤ 63)
    (hsz : sysModules < s.heap.objs.size) :
    codeAny (model prog w) A (.call (.ref fl) ⟨[.ref sc], []⟩) (fun r s' => r = .ok (.ret (.bool true)) ∧ ∃ g', St Z g' s s') s := by
  refine call_fnC (binds := [(Str.ofString "script", .ref sc)]) (n := n + 5) Rm S W hF (fun nm dc pm an ct => rfl) (fun k x hx => ?_) (fun L s₁ hL hin S₁ => ?_) rfl rfl rfl
  · rw [List.mem_singleton] at hx
    subst hx
    exact .inr ⟨rfl, rfl⟩
  have X₀ : Lw Z s L sc none none g s₁ (fun _ => none) := ⟨S₁, W, hin.toInCall.ns, hL, fun a ha => by
      refine fresh_none S ?_
      simp only [List.mem_cons, List.not_mem_nil, or_false] at ha
      rcases ha with rfl | rfl | rfl | rfl
      · exact hL
      · exact Nat.le_trans hL (Nat.le_add_right _ _)
      · exact Nat.le_trans hL (Nat.le_add_right _ _)
      · exact Nat.le_trans hL (Nat.le_add_right _ _), hin.cell (Str.ofString "script") (L + 1) rfl, hin.cell (Str.ofString "first") (L + 2) rfl, hin.cell (Str.ofString "second") (L + 3) rfl⟩
  clear hin
  show wpAny _ (A.deeper (lawEnv L fl cd)) (execs (bodyOf dLaw) (lawEnv L fl cd)) _ _ s₁
  generalize hA : A.deeper (lawEnv L fl cd) = A'
  have Rm' : Room A' (n + 5) := hA ▸ Rm.deeper _
  have R2 : Room A' (n + 2) := Rm'.less (by omega)
  have R4 : Room A' (n + 4) := Rm'.less (by omega)
  rw [law_body]
  refine wpAny_execs_cons (law_rows (n := n) R2 X₀ hl hi hlen hsz fun g₁ s₁ r d1 d2 d3 X₁ e₁ h1 h2 h3 hr => ?_)
  refine wpAny_execs_cons (law_unpack (n := n + 2) R2 X₁ hr rfl fun s₂ X₂ => ?_)
  refine wpAny_execs_cons (law_before (n := n + 2) R2 X₂ hr rfl h1 h2 h3 hsz fun g₃ s₃ b b1 b2 b3 X₃ e₃ f1 f2 f3 hb => ?_)
  refine wpAny_execs_cons (law_both (n := n) R2 X₃ (h1.ext e₃) (h2.ext e₃) hsz fun g₄ s₄ bo X₄ e₄ hbo => ?_)
  have e34 := e₃.trans e₄
  refine wpAny_execs_cons (law_keys (n := n) R2 X₄ (h1.ext e34) (h2.ext e34) fun g₅ s₅ K ks X₅ e₅ hK hks => ?_)
  have e35 := e34.trans e₅
  have n1 := h1.nodup
  have n2 := h2.nodup
  have hnd : (mergeK (sumsI (pick 0 ns)) (sumsI (pick 1 ns))).Nodup := by rw [← merge_keys n1 n2]; exact merge_nodup n1 n2
  have hsm : ∀ k ∈ mergeK (sumsI (pick 0 ns)) (sumsI (pick 1 ns)), Small k := fun k hk => by
    rcases (mergeK_mem k).mp hk with h | h
    · exact cnt_small h1 k h
    · exact cnt_small h2 k h
  refine wpAny_execs_cons (law_due (n := n) R2 X₅ (h1.ext e35) (h2.ext e35) rfl hK hks hnd hsm hsz fun g₆ s₆ du X₆ e₆ hdu => ?_)
  have e36 := e35.trans e₆
  refine wpAny_execs_cons (law_test1 (n := n) R2 X₆ (h1.ext e36) (h2.ext e36) (h3.ext e36) (f1.ext ((e₄.trans e₅).trans e₆)) (f2.ext ((e₄.trans e₅).trans e₆)) (f3.ext ((e₄.trans e₅).trans e₆)) (hbo.ext (e₅.trans e₆)) hdu
    (isList_ext hr e36) (isList_ext hb ((e₄.trans e₅).trans e₆)) (isList_ext hK e₆) (hks.ext e₆) rfl rfl rfl rfl rfl fun s₇ X₇ => ?_)
  refine wpAny_execs_cons (law_test2 (n := n) R2 X₇ hsz (h1.ext e36) (h2.ext e36) (h3.ext e36) (hbo.ext (e₅.trans e₆)) hdu rfl rfl rfl fun g₈ s₈ X₈ e₈ => ?_)
  have e38 := e36.trans e₈
  refine wpAny_execs_cons (law_test3 (n := n) R2 X₈ hsz (isList_ext hl (e₁.trans e38)) hi hlen (h1.ext e38) (h2.ext e38) (h3.ext e38) (hbo.ext ((e₅.trans e₆).trans e₈)) (by rw [sumsI_sum, sumsI_sum, sumsI_sum, pick_sum]) rfl rfl fun g₉ s₉ X₉ e₉ => ?_)
  have e39 := e38.trans e₉
  refine wpAny_execs_cons (law_fours (n := n) R2 X₉ hgp (h1.ext e39) (h2.ext e39) hsz fun ga sa fo Xa ea hfo => ?_)
  have e3a := e39.trans ea
  have e6a := (e₈.trans e₉).trans ea
  refine wpAny_execs_cons (law_test4 (n := n) R2 Xa hfo n2 (isList_ext hK (e₆.trans e6a)) (hks.ext (e₆.trans e6a)) rfl rfl fun sb Xb => ?_)
  refine wpAny_execs_cons (law_loop (n := n) R2 Xb (h1.ext e3a) (h2.ext e3a) hfo (hdu.ext e6a) (isList_ext hK (e₆.trans e6a)) (hks.ext (e₆.trans e6a)) rfl rfl rfl fun sc' m' Xc hm' => ?_)
  have mdu : m' (Str.ofString "due") = some (.ref du) := (hm' _ (by decide) (by decide)).trans rfl
  refine wpAny_execs_cons (law_one (n := n + 2) R2 Xc (isList_ext hl (e₁.trans e3a)) hi hlen fun gd sd T1 u1 u2 u3 u4 Xd ed hT1 => ?_)
  refine wpAny_execs_cons (law_other Xd fun ge se T2 v1 v2 v3 v4 Xe ee hT2 => ?_)
  have e3e := (e3a.trans ed).trans ee
  refine wpAny_execs_cons (law_test5 (n := n) R4 Xe hsz (isList_ext hl (e₁.trans e3e)) hi hlen (h1.ext e3e) (h2.ext e3e) (hdu.ext ((e6a.trans ed).trans ee)) (isTuple_ext hT1 ee) hT2 rfl rfl mdu fun gf sf Xf ef => ?_)
  have e3f := e3e.trans ef
  refine wpAny_execs_cons (law_name (n := n + 2) R2 Xf (isList_ext hl (e₁.trans e3f)) hi fun sg tg Xg => ?_)
  refine wpAny_execs_cons (law_told (n := n + 2) R2 Xg (isList_ext hl (e₁.trans e3f)) hi fun sh th Xh => ?_)
  refine wpAny_execs_cons (law_line (n := n + 2) R2 Xh (isList_ext hl (e₁.trans e3f)) hi fun si ti Xi => ?_)
  have hk0 : 0 ≤ ns.sum.fmod 10000 := Int.fmod_nonneg_of_pos _ (by decide)
  have hk1 : ns.sum.fmod 10000 < 10000 := Int.fmod_lt_of_pos _ (by decide)
  refine wpAny_execs_cons (law_test6 (n := n) R2 Xi hk0 hk1 rfl rfl rfl fun gj sj Xj ej => ?_)
  refine wpAny_execs_cons (law_end (n := n) R2 Xj hk0 hk1 rfl rfl fun gk sk Xk ek => ?_)
  exact ⟨rfl, gk, Xk.st⟩
end
end Mine
/-! M37 -/
namespace Mine
open PySem PySem.W PyProof.Rows PySem.Calls
set_option maxRecDepth 100000

def FnM (mg : Str → Option Value) (h : Heap) (st : Stmt) (qn : Str) : Prop :=
  ∃ a c P, mg qn = some (.ref a) ∧ FnAt h a st qn (.ref c) ∧ h.IsCode c P #[] ∧ h.TableAt c P #[] ∧ P ≠ cStatics
theorem fnM_of {e : DefItem} {mg : Str → Option Value} {h : Heap} {st : Stmt} {qn : Str} (x : e.At mg h) (hn : e.name = qn) (hp : e.params = argsOf st) (hb : e.body = bodyOf st) (hs : e.scope = scopeOf st) : FnM mg h st qn := by
  obtain ⟨a, c, P, o, pm, doc, h1, ho, hd, hc, B⟩ := x
  rw [hn] at h1 hd hc
  rw [hp, hb, hs] at hd
  exact ⟨a, c, P, h1, ⟨o, qn, doc, pm, _, _, ho, hd, hc⟩, B.code, B.tab, B.notStatics⟩

section
variable {h : Heap} {P : Addr}
theorem hid_get (hP : h.get? P = some { cls := .none, data := .fields #[] }) {b : Addr} {o : Obj} (e : h.get? b = some o) (hb : b ≠ P) : (hideAll h [P]).get? b = some o := hideAll_get _ e (by simp [hb])
theorem hid_ns (hP : h.get? P = some { cls := .none, data := .fields #[] }) {a : Addr} {m : Str → Option Value} (x : h.Ns a m) : (hideAll h [P]).Ns a m := by
  obtain ⟨o, es, ep, ho, hd, r⟩ := x
  refine ⟨o, es, ep, hid_get hP ho (fun e => ?_), hd, r⟩
  rw [e, hP] at ho; cases ho; cases hd
theorem hid_code (hP : h.get? P = some { cls := .none, data := .fields #[] }) {cd : Value} {q : Str} (x : h.CodeRec cd q) : (hideAll h [P]).CodeRec cd q := by
  obtain ⟨c, o, vs, t, e, ho, hd, hv⟩ := x
  refine ⟨c, o, vs, t, e, hid_get hP ho (fun e' => ?_), hd, hv⟩
  rw [e', hP] at ho; cases ho; cases hd; cases hv
theorem hid_fn (hP : h.get? P = some { cls := .none, data := .fields #[] }) {f : Addr} {st : Stmt} {qn : Str} {cd : Value} (x : FnAt h f st qn cd) : FnAt (hideAll h [P]) f st qn cd := by
  obtain ⟨o, nm, dc, pm, an, ct, ho, hd, hc⟩ := x
  refine ⟨o, nm, dc, pm, an, ct, hid_get hP ho (fun e => ?_), hd, hid_code hP hc⟩
  rw [e, hP] at ho; cases ho; cases hd
theorem hid_bmod (hP : h.get? P = some { cls := .none, data := .fields #[] }) {g bm : Addr} {mg : Str → Option Value} {ob : Obj} (x : BMod h g mg bm ob) : BMod (hideAll h [P]) g mg bm ob :=
  ⟨hid_ns hP x.ns, x.name, x.ne, hid_get hP x.obj (fun e => by have := x.obj; have hd := x.data; rw [e, hP] at this; cases this; cases hd), x.cls, x.dict, x.data⟩
theorem hid_list (hP : h.get? P = some { cls := .none, data := .fields #[] }) {l : Addr} {items : Array Value} (x : h.IsList l items) : (hideAll h [P]).IsList l items := by
  obtain ⟨o, ho, hc, n, hd⟩ := x
  refine ⟨o, hid_get hP ho (fun e => ?_), hc, n, hd⟩
  rw [e, hP] at ho; cases ho; cases hd
end

theorem sys_low : sysModules ≤ mainGlobals ∨ sysModules ≤ builtinsNs ∨ sysModules ≤ cStatics := by decide

theorem law_all {prog : Program} {w : World} {A : Around} {s : Shared} {mg mb : Str → Option Value} {bm : Addr} {ob : Obj} {n : Nat} (Rm : Room A (n + 6)) (hb : s.heap.Ns builtinsNs mb) (hlim : s.heap.NoLimit) (hbm : BMod s.heap mainGlobals mg bm ob)
    (hnone : ∀ x ∈ usedB, mg x = none) (hbi : ∀ x ∈ usedB, mb x = bootBuiltins x) (hgens : s.gens = #[])
    (f1 : FnM mg s.heap dStd (Str.ofString "func_std_string")) (f2 : FnM mg s.heap dAfs (Str.ofString "add_func_stats")) (f3 : FnM mg s.heap dAdd (Str.ofString "add_callers")) (f4 : FnM mg s.heap dCnt (Str.ofString "count_calls"))
    (f5 : FnM mg s.heap dSums (Str.ofString "_law_sums")) (f6 : FnM mg s.heap dFours (Str.ofString "_law_fours")) (f7 : FnM mg s.heap dLaw lawS) {fa sc : Addr} (hfa : mg lawS = some (.ref fa)) {vs : List Value} {ns : List Int}
    (hl : s.heap.IsList sc vs.toArray) (hi : IntsAre vs ns) (hlen : ns.length ≤ 63) :
    codeAny (model prog w) A (.call (.ref fa) ⟨[.ref sc], []⟩) (fun r s' => r = .ok (.ret (.bool true)) ∧ OldK s.heap s'.heap ∧ s'.os = s.os ∧ AllBare s'.gens) s := by
  obtain ⟨a1, c1, P1, m1, x1, _⟩ := f1
  obtain ⟨a2, c2, P2, m2, x2, _⟩ := f2
  obtain ⟨a3, c3, P3, m3, x3, hcode, htab, hPs⟩ := f3
  obtain ⟨a4, c4, P4, m4, x4, _⟩ := f4
  obtain ⟨a5, c5, P5, m5, x5, _⟩ := f5
  obtain ⟨a6, c6, P6, m6, x6, _⟩ := f6
  obtain ⟨a7, c7, P7, m7, x7, _⟩ := f7
  obtain rfl : a7 = fa := by rw [hfa] at m7; cases m7; rfl
  have hP : s.heap.get? P3 = some { cls := .none, data := .fields #[] } := htab.2
  have W : WF ⟨a1, a2, a3, a4, a5, a6, c3, P3, #[], genPos, mg, mb⟩ (hideAll s.heap [P3]) := {
    g := hid_ns hP hbm.ns
    b := hid_ns hP hb
    lim := let ⟨mc, x, y⟩ := hlim; ⟨mc, hid_ns hP x, y⟩
    gStd := m1
    gAfs := m2
    gAdd := m3
    gCnt := m4
    gSums := m5
    gFours := m6
    gNone := hnone
    bAll := hbi
    bi := ⟨bm, ob, hid_bmod hP hbm⟩
    nStd := ⟨_, hid_fn hP x1⟩
    nAfs := ⟨_, hid_fn hP x2⟩
    nAdd := hid_fn hP x3
    nCnt := ⟨_, hid_fn hP x4⟩
    nSums := ⟨_, hid_fn hP x5⟩
    nFours := ⟨_, hid_fn hP x6⟩ }
  have tab : Zone.Tab ⟨a1, a2, a3, a4, a5, a6, c3, P3, #[], genPos, mg, mb⟩ s.heap := ⟨#[], hcode, htab, .inl rfl⟩
  have S : St ⟨a1, a2, a3, a4, a5, a6, c3, P3, #[], genPos, mg, mb⟩ (hideAll s.heap [P3]) s s := {
    ext := fun _ _ _ e => e
    size := Nat.le_refl _
    sub := fun _ _ e => of_hideAll _ e
    gP := hideAll_none _ (by simp)
    os := rfl
    bare := AllBare.of_eq hgens
    tab₀ := tab.lt
    tab := tab }
  have hsz : sysModules < s.heap.objs.size := by
    rcases sys_low with h | h | h
    · exact Nat.lt_of_le_of_lt h hbm.ns.lt
    · exact Nat.lt_of_le_of_lt h hb.lt
    · exact Nat.lt_of_le_of_lt h (let ⟨_, x, _⟩ := hlim; x.lt)
  refine codeAny_mono (law_spec (n := n) Rm S W rfl (hid_fn hP x7) (hid_list hP hl) hi hlen hsz) ?_
  rintro r s' ⟨rfl, g', S'⟩
  obtain ⟨more, hI, hT, _⟩ := S'.tab
  exact ⟨rfl, (OldK.refl s.heap).step_table htab htab hT (fun b o hb e => S'.ext b o hb e) hPs, S'.os, S'.bare⟩
end Mine
open PySem PySem.W PyProof.Rows
set_option maxRecDepth 100000 in
set_option maxHeartbeats 8000000 in
theorem PySem.Challenge.cw_wy0065_01_holds : PySem.Challenge.rw_wy0065_01.Holds := by
  w_on; o_law; k_head; (case hw => w_witness2); w_strict (
    k_fill
    intro w s₀ s₁ mg mb G Y fa o pm cd doc dV kV ho hd hcd hD hmg hg args vals as hpre hlay hrd hwl hlo
    refine Ground.open G ?_
    intro T B D TE TW
    obtain ⟨bm, ob, M⟩ := bmod_of_top T
    have TA := at_of_top T
    wrow_args hpre hlay hrd hwl hlo
    all_goals (
      first | refine callC_kw (enter_call ?_) | refine enter_call ?_ | refine callC_kw (enter_callW ?_) | refine enter_callW ?_ | w_how
      clear hd hcd hD ho
      have hn : ∀ x ∈ Mine.usedB, mg x = none := by
        intro x hx
        refine T.free x ?_ ?_ ?_ ?_ ?_
        · revert x; decide +kernel
        · revert x; decide +kernel
        · revert x; decide +kernel
        · revert x; decide +kernel
        · revert x; decide +kernel
      have hbi : ∀ x ∈ Mine.usedB, mb x = bootBuiltins x := fun x hx => T.builtins x ((by decide +kernel : ∀ x ∈ Mine.usedB, x ≠ "__name__") x hx)
      have f1 : Mine.FnM mg s₁.heap Mine.dStd (Str.ofString "func_std_string") := Mine.fnM_of (TA _ (.head _) rfl) rfl rfl rfl rfl
      have f2 : Mine.FnM mg s₁.heap Mine.dAfs (Str.ofString "add_func_stats") := Mine.fnM_of (TA _ (.tail _ (.head _)) rfl) rfl rfl rfl rfl
      have f3 : Mine.FnM mg s₁.heap Mine.dAdd (Str.ofString "add_callers") := Mine.fnM_of (TA _ (.tail _ (.tail _ (.head _))) rfl) rfl rfl rfl rfl
      have f4 : Mine.FnM mg s₁.heap Mine.dCnt (Str.ofString "count_calls") := Mine.fnM_of (TA _ (.tail _ (.tail _ (.tail _ (.head _)))) rfl) rfl rfl rfl rfl
      have f5 : Mine.FnM mg s₁.heap Mine.dSums (Str.ofString "_law_sums") := Mine.fnM_of (TA _ (.tail _ (.tail _ (.tail _ (.tail _ (.head _))))) rfl) rfl rfl rfl rfl
      have f6 : Mine.FnM mg s₁.heap Mine.dFours (Str.ofString "_law_fours") := Mine.fnM_of (TA _ (.tail _ (.tail _ (.tail _ (.tail _ (.tail _ (.head _)))))) rfl) rfl rfl rfl rfl
      have f7 : Mine.FnM mg s₁.heap Mine.dLaw Mine.lawS := Mine.fnM_of (TA _ (.tail _ (.tail _ (.tail _ (.tail _ (.tail _ (.tail _ (.head _))))))) rfl) rfl rfl rfl rfl
      have Rm : Mine.Room callerA (0 + 6) := ⟨rfl, by decide, by decide⟩
      refine codeAny_mono (Mine.law_all (n := 0) Rm T.b T.nolimit M hn hbi hg f1 f2 f3 f4 f5 f6 f7 hmg (by assumption) (by assumption) (by omega)) (fun r s' g => ?_)
      obtain ⟨hr, hK, hos, hbare⟩ := g
      subst hr
      refine ⟨.inl ⟨_, _, [], rfl, (fun _ => rfl), ReadsW.bool true, ?_, fun _ => ⟨List.nodup_nil, fun _ hm => nomatch hm⟩⟩, hK, hos, hbare⟩
      first | rfl | wrow_post))
