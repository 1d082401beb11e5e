/- A part of the proof of what the last text of this claim says: QV8. Conditions: none. -/
import Derived.Test.YtndpjeldpdppmaaGreatDoorYBAp
set_option maxRecDepth 10000
namespace Go.Vx
open Go Go.Proofs


theorem leaf_kids {t : Tr} (h : Good t) (hk : t.n.kind = 25 ∨ t.n.kind = 33 ∨ t.n.kind = 28 ∨ t.n.kind = 38) : t.ks = [] := by
  cases h.self.2 with
  | leaf _ h1 => exact h1
  | _ => omega

section
variable {E : PEnv} {t : Tr} {de ds ms os : List Tr}

theorem kvs_union (hk : t.n.kind = 32) (hks : t.ks = de ++ (ds ++ ms)) (hde : InK [23] de) (hds : InK [10] ds) (hms : InK [33] ms) : kvs t = kvF de ++ (nmK wUnion :: nmK t.n.name :: (kvF ds ++ brS kEq kPipe ms)) := by
  have e1 := sel_de hde (l := ds ++ ms) fun x hx => by
    rcases List.mem_append.1 hx with h | h
    · rw [kind_of_in hds x h]; decide
    · rw [kind_of_in hms x h]; decide
  have e2 : dirsK (kvL (de ++ (ds ++ ms))) = kvF ds := by
    unfold dirsK
    rw [kidsK_sel (l := ds) (by rw [selK_app, selK_app, selK_no (fun x hx => by rw [kind_of_in hde x hx]; decide), selK_all hds (by simp), selK_no (l := ms) (fun x hx => by rw [kind_of_in hms x hx]; decide), List.nil_append, List.append_nil]), brK_none]
  have e3 : kidsK (some kEq) none (some kPipe) [33] (kvL (de ++ (ds ++ ms))) = brS kEq kPipe ms :=
    kidsK_selS (l := ms) (by rw [selK_app, selK_app, selK_no (fun x hx => by rw [kind_of_in hde x hx]; decide), selK_no (l := ds) (fun x hx => by rw [kind_of_in hds x hx]; decide), selK_all hms (by simp), List.nil_append, List.nil_append])
  rw [kvs_eq, hks]; simp [bodyK, restK, defK, hk, e1, e2, e3]

theorem kvs_schema (hk : t.n.kind = 24) (hks : t.ks = ds ++ os) (hds : InK [10] ds) (hos : InK [25] os) : kvs t = nmK wSchema :: (kvF ds ++ brK (some kBL) (some kBR) os) := by
  have e1 : kidsK none none none [23] (kvL (ds ++ os)) = [] := by
    rw [kidsK_sel (l := []) (by rw [selK_app, selK_no (fun x hx => by rw [kind_of_in hds x hx]; decide), selK_no (fun x hx => by rw [kind_of_in hos x hx]; decide)]; rfl), brK_none]; rfl
  have e2 : dirsK (kvL (ds ++ os)) = kvF ds := by
    unfold dirsK
    rw [kidsK_sel (l := ds) (by rw [selK_app, selK_all hds (by simp), selK_no (l := os) (fun x hx => by rw [kind_of_in hos x hx]; decide), List.append_nil]), brK_none]
  have e3 : kidsK (some kBL) (some kBR) none [25] (kvL (ds ++ os)) = brK (some kBL) (some kBR) os :=
    kidsK_sel (l := os) (by rw [selK_app, selK_no (fun x hx => by rw [kind_of_in hds x hx]; decide), selK_all hos (by simp), List.nil_append])
  rw [kvs_eq, hks]; simp [bodyK, restK, defK, hk, e1, e2, e3]
end

theorem kvs_member {m : Tr} (hk : m.n.kind = 33) : kvs m = [nmK m.n.name] := by
  rw [kvs_eq]; simp [bodyK, restK, hk]
theorem kvs_otype {m : Tr} (hk : m.n.kind = 25) (hks : m.ks = []) : kvs m = [nmK m.n.text, kCol, nmK m.n.name] := by
  rw [kvs_eq, hks]; simp [bodyK, restK, defK, hk, kvL, kidsK, selK]

theorem parseUnionMembers_ok (E : PEnv) (l : List Tr) (hK : InK [33] l) (hne : l ≠ []) (hlen : l.length ≤ 400) (u : KV) (r : List KV) (hu : u.1 ≠ 13) :
    POk E f_parser_parseUnionMembers #[.pointer (some ⟨E.p, 0, none⟩)] (sepK (some kPipe) (kvL l) ++ u :: r) (u :: r) slV fun x G => ∃ bs : List Nat, SlAt x (bs.map ptV) G ∧ All2 (fun b k => NamedAt b k.n.name G) bs l := by
  intro H ps
  refine parseUnionMembers.enter _ H _ ?_
  unfold parseUnionMembers.W
  refine Lst.row0 ps t_p_ast_Named ptV (fun (b : Nat) (k : Tr) G => NamedAt b k.n.name G) fun b0 H3 l0 => ?_
  refine ⟨fun z H' => ∃ (done rest : List Tr) (m : Tr) (bs : List Nat), l = done ++ m :: rest ∧ Lst E H H' (sepK (some kPipe) (kvL (m :: rest)) ++ u :: r) t_p_ast_Named z.1 ptV (fun (b : Nat) (k : Tr) G => NamedAt b k.n.name G) bs done, fun z _ => l.length - z.1.2.1, ?_, ?_⟩
  · cases l with
    | nil => exact absurd rfl hne
    | cons m rest => exact ⟨[], rest, m, [], rfl, l0⟩
  rintro ⟨⟨xa, xn, xc⟩, _⟩ H4 ⟨done, rest, m, bs, hl4, l4⟩
  dsimp only at l4 ⊢
  have hn := l4.own.1
  simp only [List.length_map, Nat.mul_one] at hn
  have hbl := l4.facts.len
  have hll := congrArg List.length hl4
  simp only [List.length_append, List.length_cons] at hll
  have hkm := kind_of_in hK m (by rw [hl4]; simp)
  obtain ⟨w1, w2, hw, hcase⟩ : ∃ w1 w2, sepK (some kPipe) (kvL (m :: rest)) ++ u :: r = nmK m.n.name :: w1 :: w2 ∧
      (rest = [] ∧ w1 = u ∧ w2 = r ∨ ∃ m2 rest2, rest = m2 :: rest2 ∧ w1 = kPipe ∧ w2 = sepK (some kPipe) (kvL (m2 :: rest2)) ++ u :: r) := by
    cases rest with
    | nil => exact ⟨u, r, by simp [kvL, sepK, kvs_member hkm], .inl ⟨rfl, rfl, rfl⟩⟩
    | cons m2 rest2 =>
      refine ⟨kPipe, sepK (some kPipe) (kvL (m2 :: rest2)) ++ u :: r, ?_, .inr ⟨m2, rest2, rfl, rfl, rfl⟩⟩
      have e : sepK (some kPipe) (kvL (m :: m2 :: rest2)) = kvs m ++ ([kPipe] ++ sepK (some kPipe) (kvL (m2 :: rest2))) := by simp only [kvL, sepK]; rfl
      rw [e, kvs_member hkm]
      simp
  rw [hw] at l4
  refine l4.call (parseNamed_ok E m.n.name w1 w2) fun y H5 l5 f5 => ?_
  refine l5.push (b := y) (m := m) (by unfold plainT; decide) (fun _ => rfl) 8 (by decide) (by omega) f5 fun a c H6 l6 => ?_
  rcases hcase with ⟨rfl, rfl, rfl⟩ | ⟨m2, rest2, rfl, rfl, rfl⟩
  · refine l6.call1 (skip_no E _ _ 13 hu) false rfl fun H7 l7 => ?_
    refine forkB_intro (fun _ => ?_) (fun hh => absurd hh (by decide))
    refine retK_intro ⟨(a, xn + 1, c), rfl, l7.fin.weak fun G hG => ⟨bs ++ [y], hG.1, ?_⟩⟩
    rw [hl4]
    exact hG.2
  · obtain ⟨z1, z2, hz⟩ := app_ne (sepK (some kPipe) (kvL (m2 :: rest2))) u r
    rw [hz] at l6
    refine l6.call1 (skip_yes E kPipe z1 z2 13 rfl) true rfl fun H7 l7 => ?_
    refine forkB_intro (fun hh => absurd hh (by decide)) (fun _ => ?_)
    rw [← hz] at l7
    refine ⟨⟨done ++ [m], rest2, m2, bs ++ [y], by rw [hl4]; simp, l7⟩, ?_⟩
    simp only [List.length_cons] at hll
    omega

section
variable {G : Heap} {b lb nb : Nat} {t : Tr}

theorem item_union {xd : Option Addr} {xs xm : Option Addr × Nat × Nat} {de ds ms : List Tr} {bs : List Nat} {k0 : Value} (hl : LocAt lb G) (hn : NameAt nb t.n.name G)
    (hb : G[b]? = some (.cells #[k0, .pointer (some ⟨lb, 0, none⟩), .pointer (some ⟨nb, 0, none⟩), .pointer xd, .slice xs.1 xs.2.1 xs.2.2, .slice xm.1 xm.2.1 xm.2.2] t_ast_UnionDefinition))
    (hd : TakeD xd (flatL de) G) (hs : TakeL f_impl_taker_directives xs (flatL ds) G) (hm : SlAt xm (bs.map ptV) G) (hv : All2 (fun b k => NamedAt b k.n.name G) bs ms) (hmf : ∀ m ∈ ms, Fine m ∧ m.n.kind = 33)
    (hks : t.ks = de ++ (ds ++ ms)) (hk : t.n.kind = 32) (ha : t.n.alias = eB) (hx : t.n.text = eB) (hw : Ws t) : ItemAt f_impl_taker_system_4 t_p_ast_UnionDefinition 32 2 b t G := by
  refine ⟨⟨lb, nb, _, _, hl, hn, hb, rfl, rfl⟩, ?_, hk, ha, hx, hw⟩
  intro H tk c1 c2 D ht hD h1 h2
  rw [hks, flatL_append, flatL_append] at hD ⊢
  simp only [List.length_append] at hD
  have bx := ht.ext.get _ _ hb (by simp)
  refine inSys4.enter c1 c2 H _ ?_
  unfold inSys4.W
  refine ⟨_, loadC_of h1 rfl, _, loadC_of h2 rfl, _, loadC_of bx rfl, ?_⟩
  refine (hd H tk D ht (by omega)).mono ?_
  rintro _ H5 ⟨rfl, k5, Y, hY, t5⟩
  have q1 := k5.get _ _ _ _ h1 (by decide) (by decide) (by decide)
  have q2 := k5.get _ _ _ _ h2 (by decide) (by decide) (by decide)
  have bx5 := t5.ext.get _ _ hb (by simp)
  have hYl := hY.len
  refine ⟨(), rfl, _, loadC_of q1 rfl, _, loadC_of q2 rfl, xs, loadC_of bx5 rfl, ?_⟩
  refine (hs H5 tk _ t5 (by rw [List.length_append]; omega)).mono ?_
  rintro _ H6 ⟨rfl, k6, Z, hZ, t6⟩
  have p1 := k6.get _ _ _ _ q1 (by decide) (by decide) (by decide)
  have p2 := k6.get _ _ _ _ q2 (by decide) (by decide) (by decide)
  have bx6 := t6.ext.get _ _ hb (by simp)
  have hZl := hZ.len
  have hnl : xm.2.1 = ms.length := by have := hm.1; simp at this; rw [this, hv.len]
  have hml : ms.length ≤ (flatL ms).length := flatL_len ms
  refine ⟨(), rfl, _, loadC_of p2 rfl, xm, loadC_of bx6 rfl, ?_⟩
  refine take_loop ms xm.2.1 hnl (by omega) (KpT.refl H6) t6 (fun k kt H8 U next hi k8 hU t8 hnext => ?_) (fun H8 U k8 hU t8 => retK_intro (Took.seq k5 hY (Took.seq k6 hZ ⟨rfl, k8, U, hU, t8⟩))) (fun k H8 next => rfl)
  obtain ⟨xb, hxi, lb2, nb2, ⟨ls2, le2, lq2, hl2⟩, ⟨lb3, _, hnm⟩, hbx⟩ := hv.get k kt hi
  obtain ⟨hkf, hkk⟩ := hmf kt (List.mem_of_getElem? hi)
  have hL := (hm.keep t8.ext).load (i := k) (v := ptV xb) (by simp [hxi])
  have r1 := k8.get _ _ _ _ p1 (by decide) (by decide) (by decide)
  have bx8 := t8.ext.get _ _ hbx (by simp)
  have hlen := flatL_take_le ms k
  have hUl := hU.len
  refine ⟨hL.1, xb, hL.2, _, loadC_of r1 rfl, _, loadC_of bx8 rfl, ?_⟩
  refine (on_ok xb nb2 kt.n.name H8 bx8 (t8.ext.get _ _ hnm (by simp))).mono ?_
  rintro _ _ ⟨rfl, rfl⟩
  refine ⟨_, rfl, loadC_of bx8 rfl, loadC_of r1 rfl, ?_⟩
  refine (putNil_ok t8 (by simp only [List.length_append]; omega) lb2 hl2 ⟨33, kt.n.name, eB, eB, 0, 0⟩).mono ?_
  rintro _ H9 ⟨rfl, k9, t9⟩
  refine ⟨(), rfl, ?_⟩
  rw [wrap1 (k := k) (by have := (List.getElem?_eq_some_iff.1 hi).1; omega)]
  exact hnext H9 _ (k8.trans k9) (same_leaf (leaf_kids hkf.1 (by omega)) hkf.2.1 ⟨33, kt.n.name, eB, eB, 0, 0⟩ hkk.symm rfl (formed_alias hkf.1.self.1 (by omega)).symm (body_notext hkf.1.self.1.2 (by omega)).symm (fun h => by simp at h)) t9

theorem close_schema {xs xm : Option Addr × Nat × Nat} {ds os : List Tr} {bs : List Nat} {k0 k1 : Value}
    (hb : G[b]? = some (.cells #[k0, k1, .slice xs.1 xs.2.1 xs.2.2, .slice xm.1 xm.2.1 xm.2.2] t_ast_SchemaDefinition))
    (hs : TakeL f_impl_taker_directives xs (flatL ds) G) (hm : SlAt xm (bs.map ptV) G) (hv : All2 (fun b k => OTypeAt b k G) bs os) (hmf : ∀ m ∈ os, Fine m ∧ m.n.kind = 25)
    (hks : t.ks = ds ++ os) : CloseOk f_impl_taker_system_1 t_p_ast_SchemaDefinition b (flatL t.ks) G := by
  intro H tk c1 c2 D ht hD h1 h2
  rw [hks, flatL_append] at hD ⊢
  simp only [List.length_append] at hD
  have bx := ht.ext.get _ _ hb (by simp)
  refine inSys1.enter c1 c2 H _ ?_
  unfold inSys1.W
  refine ⟨_, loadC_of h1 rfl, _, loadC_of h2 rfl, xs, loadC_of bx rfl, ?_⟩
  refine (hs H tk D ht (by omega)).mono ?_
  rintro _ H6 ⟨rfl, k6, Z, hZ, t6⟩
  have p1 := k6.get _ _ _ _ h1 (by decide) (by decide) (by decide)
  have p2 := k6.get _ _ _ _ h2 (by decide) (by decide) (by decide)
  have bx6 := t6.ext.get _ _ hb (by simp)
  have hZl := hZ.len
  have hnl : xm.2.1 = os.length := by have := hm.1; simp at this; rw [this, hv.len]
  have hml : os.length ≤ (flatL os).length := flatL_len os
  refine ⟨(), rfl, _, loadC_of p2 rfl, xm, loadC_of bx6 rfl, ?_⟩
  refine take_loop os xm.2.1 hnl (by omega) (KpT.refl H6) t6 (fun k kt H8 U next hi k8 hU t8 hnext => ?_) (fun H8 U k8 hU t8 => retK_intro (Took.seq k6 hZ ⟨rfl, k8, U, hU, t8⟩)) (fun k H8 next => rfl)
  obtain ⟨xb, hxi, lb2, nb2, ⟨ls2, le2, lq2, hl2⟩, ⟨lb4, nb4, _, ⟨lb3, _, hnm⟩, hnd⟩, hbx⟩ := hv.get k kt hi
  obtain ⟨hkf, hkk⟩ := hmf kt (List.mem_of_getElem? hi)
  have hL := (hm.keep t8.ext).load (i := k) (v := ptV xb) (by simp [hxi])
  have r1 := k8.get _ _ _ _ p1 (by decide) (by decide) (by decide)
  have bx8 := t8.ext.get _ _ hbx (by simp)
  have hlen := flatL_take_le os k
  have hUl := hU.len
  refine ⟨hL.1, xb, hL.2, _, loadC_of r1 rfl, _, loadC_of bx8 rfl, _, loadC_of bx8 rfl, _, loadC_of bx8 rfl, ?_⟩
  refine (on_ok nb2 nb4 kt.n.name H8 (t8.ext.get _ _ hnd (by simp)) (t8.ext.get _ _ hnm (by simp))).mono ?_
  rintro _ _ ⟨rfl, rfl⟩
  refine ⟨_, rfl, loadC_of bx8 rfl, loadC_of bx8 rfl, loadC_of r1 rfl, ?_⟩
  refine (putNil_ok t8 (by simp only [List.length_append]; omega) lb2 hl2 ⟨25, kt.n.name, eB, kt.n.text, 0, 0⟩).mono ?_
  rintro _ H9 ⟨rfl, k9, t9⟩
  refine ⟨(), rfl, ?_⟩
  rw [wrap1 (k := k) (by have := (List.getElem?_eq_some_iff.1 hi).1; omega)]
  exact hnext H9 _ (k8.trans k9) (same_leaf (leaf_kids hkf.1 (by omega)) hkf.2.1 ⟨25, kt.n.name, eB, kt.n.text, 0, 0⟩ hkk.symm rfl (formed_alias hkf.1.self.1 (by omega)).symm rfl (fun h => by simp at h)) t9

theorem take_union32 (kind : Int) (hf : Fine t) (h : ItemAt f_impl_taker_system_4 t_p_ast_UnionDefinition 32 2 b t G) : TakeOk kind t_p_ast_UnionDefinition b (flat t) G := by
  intro H tk D ht hD
  refine tpartUnionDefinition.enter tk b kind H _ ?_
  unfold tpartUnionDefinition.W
  refine newB_intro fun H2 e2 hb2 x2 s2 => ?_
  refine ⟨fun w => by kernel_rfl, ?_⟩
  have t2 := ht.grow x2
  refine ⟨_, loadC_of hb2 rfl, definitionUnionDefinition.enter tk b H2 _ ?_⟩
  unfold definitionUnionDefinition.W
  refine newB_intro fun H3 e3 hb3 x3 s3 => ?_
  have t3 := t2.grow x3
  refine ⟨_, loadC_of hb3 rfl, ?_⟩
  have := item_ok putSys4.enter (by unfold apartT; decide) (by decide) h t3 (fine_take hf.2.2 hD)
  refine (systemUnionDefinition.enter tk b H3 _ this).mono ?_
  rintro v H4 ⟨rfl, k4, Y, hY, t4⟩
  exact ⟨(), rfl, retK_intro ⟨(), rfl, retK_intro ⟨rfl, Y, hY, t4⟩⟩⟩

def SchemaAt (b : Nat) (t : Tr) (G : Heap) : Prop := ∃ (lb : Nat) (k0 x2 x3 : Value), LocAt lb G ∧ G[b]? = some (.cells #[k0, .pointer (some ⟨lb, 0, none⟩), x2, x3] t_ast_SchemaDefinition) ∧ CloseOk f_impl_taker_system_1 t_p_ast_SchemaDefinition b (flatL t.ks) G

theorem take_schema24 (kind : Int) (hf : Fine t) (hk : t.n.kind = 24) (h : SchemaAt b t G) : TakeOk kind t_p_ast_SchemaDefinition b (flat t) G := by
  intro H tk D ht hD
  obtain ⟨lb, k0, x2', x3', ⟨ls, le, lq, hl⟩, hb, hclose⟩ := h
  obtain ⟨hn, hx⟩ := body_empty hf.1.self.1.2 (n := t.n) (by omega)
  have ha := formed_alias hf.1.self.1 (by omega)
  have hfl : (flat t).length = 1 + (flatL t.ks).length := by rw [flat_node]; simp; omega
  have hfl4 := hf.2.2
  refine tpartSchemaDefinition.enter tk b kind H _ ?_
  unfold tpartSchemaDefinition.W
  refine newB_intro fun H2 e2 hb2 x2 s2 => ?_
  refine ⟨fun w => by kernel_rfl, ?_⟩
  have t2 := ht.grow x2
  refine ⟨_, loadC_of hb2 rfl, definitionSchemaDefinition.enter tk b H2 _ ?_⟩
  unfold definitionSchemaDefinition.W
  refine newB_intro fun H3 e3 hb3 x3 s3 => ?_
  have t3 := t2.grow x3
  refine ⟨_, loadC_of hb3 rfl, systemSchemaDefinition.enter tk b H3 _ ?_⟩
  unfold systemSchemaDefinition.W
  refine caps t3 b t_p_ast_SchemaDefinition fun b1 b3 H5 x5 t5 h1 h3 => ?_
  have bx := t5.ext.get _ _ hb (by simp)
  refine ⟨_, loadC_of h1 rfl, _, loadC_of h3 rfl, _, loadC_of bx rfl, ?_⟩
  refine (putSys1.enter tk lb ⟨24, eB, eB, eB, 0, 0⟩ b1 b3 H5 _ (putG_ok f_impl_taker_system_1 t5 (by omega) lb hl ⟨24, eB, eB, eB, 0, 0⟩ b1 b3 (P := fun W => Sames W (flatL t.ks)) fun H7 k7 t7 => ?_)).mono ?_
  · refine (hclose H7 tk b1 b3 _ t7 (by simp only [List.length_append, List.length_cons, List.length_nil]; omega) (k7.get _ _ _ _ h1 (by decide) (by decide) (by decide)) (k7.get _ _ _ _ h3 (by decide) (by decide) (by decide))).mono ?_
    intro v' H8 hT
    exact hT.within (by omega)
  · rintro _ H8 ⟨rfl, k8, W, hW, t8⟩
    refine ⟨(), rfl, retK_intro ⟨(), rfl, retK_intro ⟨(), rfl, retK_intro ⟨rfl, _, same_node hf.2.1 hW ⟨24, eB, eB, eB, 0, 0⟩ hk.symm hn.symm ha.symm hx.symm (by simp), t8⟩⟩⟩⟩
end

theorem union_parts {t : Tr} (hf : Fine t) (hk : t.n.kind = 32) : ∃ (de ds ms : List Tr), t.ks = de ++ (ds ++ ms) ∧ InK [23] de ∧ de.length ≤ 1 ∧ InK [10] ds ∧ InK [33] ms ∧ ms ≠ [] := by
  cases hf.1.self.2 with
  | union de ds ms _ h1 h2 h3 h4 h5 h6 _ => exact ⟨de, ds, ms, h1, h2, h3, h4, h5, List.length_pos_iff.1 h6⟩
  | _ => omega
theorem schema_parts {t : Tr} (hf : Fine t) (hk : t.n.kind = 24) : ∃ (ds os : List Tr), t.ks = ds ++ os ∧ InK [10] ds ∧ InK [25] os ∧ os ≠ [] := by
  cases hf.1.self.2 with
  | schema ds os _ h1 h2 h3 h4 => exact ⟨ds, os, h1, h2, h3, List.length_pos_iff.1 h4⟩
  | _ => omega

theorem parseUnion_ok (E : PEnv) (t : Tr) (hk : t.n.kind = 32) (hf : Fine t) (u : KV) (r : List KV) (hu : u.1 ≠ 13) :
    POk E f_parser_parseUnionTypeDefinition #[.pointer (some ⟨E.p, 0, none⟩)] (kvs t ++ u :: r) (u :: r) (ifP t_p_ast_UnionDefinition) fun b G => ItemAt f_impl_taker_system_4 t_p_ast_UnionDefinition 32 2 b t G := by
  intro H ps
  obtain ⟨de, ds, ms, hks, hde, h1, hds, hms, hmn⟩ := union_parts hf hk
  have hkf := kids_fine hf
  have hlen := hf.few
  rw [hks] at hkf hlen
  simp only [List.length_append] at hlen
  have eS : brS kEq kPipe ms = kEq :: sepK (some kPipe) (kvL ms) := by simp [brS, hmn]
  rw [kvs_union hk hks hde hds hms, eS] at ps
  simp only [List.append_assoc, List.cons_append] at ps
  refine parseUnionTypeDefinition.enter _ H _ ?_
  unfold parseUnionTypeDefinition.W
  obtain ⟨w0, w1, hw0⟩ := app_ne (kvF de) (nmK wUnion) (nmK t.n.name :: (kvF ds ++ (kEq :: (sepK (some kPipe) (kvL ms) ++ u :: r))))
  have ps' := ps
  rw [hw0] at ps'
  obtain ⟨st, hst, _⟩ := ps'.start
  refine ⟨_, hst, ?_⟩
  refine (Cx.start ps).call (p := opP) (parseDescription_ok E de hde h1 (fun x hx => hkf x (by simp [hx])) _ _ ⟨by simp, by simp⟩) fun xd H1 _ c1 => ?_
  refine c1.call (expectKeyWord_ok E _ _ wUnion) fun _ H2 _ c2 => ?_
  obtain ⟨w2, w3, hw2⟩ := app_ne (kvF ds) kEq (sepK (some kPipe) (kvL ms) ++ u :: r)
  rw [hw2] at c2
  refine c2.call (parseName_ok E t.n.name w2 w3) fun nb H3 _ c3 => ?_
  rw [← hw2] at c3
  refine c3.call (p := slP) (parseDirectives_ok E ds hds (fun x hx => hkf x (by simp [hx])) (by omega) kEq _ (by decide) (by decide)) fun xs H4 _ c4 => ?_
  obtain ⟨w4, w5, hw4⟩ := app_ne (sepK (some kPipe) (kvL ms)) u r
  rw [hw4] at c4
  refine c4.call (expect_ok E kEq w4 w5 8 rfl) fun _ H5 _ c5 => ?_
  rw [← hw4] at c5
  refine c5.call (p := slP) (parseUnionMembers_ok E ms hms hmn (by omega) u r hu) fun xm H6 _ c6 => ?_
  refine c6.call (loc_ok E _ _) fun lb H7 _ c7 => ?_
  refine c7.node (NewUnionDefinition_mk _ _ _ _ _ _ _ _ _) fun b H8 _ c8 => ?_
  refine retK_intro ⟨b, rfl, c8.weak fun G hG => ?_⟩
  obtain ⟨⟨⟨⟨⟨⟨⟨⟨_, hd⟩, _⟩, hn⟩, hs⟩, _⟩, ⟨bs, hm, hv⟩⟩, hl⟩, hb⟩ := hG
  exact item_union hl hn hb hd hs hm hv (fun m hmm => ⟨hkf m (by simp [hmm]), kind_of_in hms m hmm⟩) hks hk (formed_alias hf.1.self.1 (by omega)) (body_notext hf.1.self.1.2 (by omega)) hf.2.1

theorem parseSchema_ok (E : PEnv) (t : Tr) (hk : t.n.kind = 24) (hf : Fine t) (u : KV) (r : List KV) :
    POk E f_parser_parseSchemaDefinition #[.pointer (some ⟨E.p, 0, none⟩)] (kvs t ++ u :: r) (u :: r) (ifP t_p_ast_SchemaDefinition) fun b G => SchemaAt b t G := by
  intro H ps
  obtain ⟨ds, os, hks, hds, hos, hon⟩ := schema_parts hf hk
  have hkf := kids_fine hf
  have hlen := hf.few
  rw [hks] at hkf hlen
  simp only [List.length_append] at hlen
  have hof : ∀ m ∈ os, Fine m ∧ m.n.kind = 25 := fun m hm => ⟨hkf m (by simp [hm]), kind_of_in hos m hm⟩
  rw [kvs_schema hk hks hds hos, List.cons_append, List.append_assoc, brK_some hon] at ps
  refine parseSchemaDefinition.enter _ H _ ?_
  unfold parseSchemaDefinition.W
  obtain ⟨st, hst, _⟩ := ps.start
  refine ⟨_, hst, ?_⟩
  obtain ⟨w2, w3, hw2⟩ := app_ne (kvF ds) kBL (os.flatMap kvs ++ kBR :: u :: r)
  rw [hw2] at ps
  refine (Cx.start ps).call (expectKeyWord_ok E _ _ wSchema) fun x1 H1 _ c1 => ?_
  rw [← hw2] at c1
  refine c1.tok rfl fun H2 _ _ c2 => ?_
  refine c2.call (p := slP) (parseDirectives_ok E ds hds (fun x hx => hkf x (by simp [hx])) (by omega) kBL _ (by decide) (by decide)) fun xs H3 _ c3 => ?_
  refine revList t_p_ast_OperationTypeDefinition t_p_ast_OperationTypeDefinition (by unfold plainT; decide) (Q := fun b t G => OTypeAt b t G) (fun _ => True) (by omega) hon (fun m hm u' r' _ => ?_) (fun m hm => ?_) trivial c3.ps (fun R h => reverseOpType.enter _ _ _ _ _ R h) fun x bs H4 hbl c4 => ?_
  · obtain ⟨h1, h2⟩ := hof m hm
    rw [kvs_otype h2 (leaf_kids h1.1 (by omega))]
    exact parseOperationTypeDefinition_ok E m u' r' (body_op h1.1.self.1.2 (by omega))
  · obtain ⟨h1, h2⟩ := hof m hm
    exact ⟨_, _, kvs_otype h2 (leaf_kids h1.1 (by omega)), trivial, by simp⟩
  refine newB_intro fun H5 e5 hb5 x5 s5 => ?_
  refine conv_loop t_p_ast_OperationTypeDefinition t_p_ast_OperationTypeDefinition (by unfold plainT; decide) E c4 (by omega) (Ext.refl _ _) c3.ps.lt x5 hb5 c4.ext.size (.inr (Nat.le_refl _)) (K := fun y H' => callW PP f_parser_loc #[(.pointer (some ⟨E.p, 0, none⟩)), (.int .i64 (st : Int))] H' pBlk fun (x22 : Nat) H23 =>
    newB H23 (.cells #[(.string (Go.Vx.bs [])), (.pointer (some ⟨x22, 0, none⟩)), (.slice xs.1 xs.2.1 xs.2.2), (.slice y.1 y.2.1 y.2.2)] t_ast_SchemaDefinition) fun b24 H25 =>
    callW PP f_ast_NewSchemaDefinition #[(.pointer (some ⟨b24, 0, none⟩))] H25 pBlk fun (x26 : Nat) H27 =>
    retK (some [(.iface t_p_ast_SchemaDefinition (.pointer (some ⟨x26, 0, none⟩))), .nilIface]) H27 _) fun y H6 c6 => ?_
  refine (c3.trans c6).call (loc_ok E _ _) fun lb H7 _ c7 => ?_
  refine c7.node (NewSchemaDefinition_mk _ _ _ _ _ _ _) fun b H8 _ c8 => ?_
  refine retK_intro ⟨b, rfl, c8.weak fun G hG => ?_⟩
  obtain ⟨⟨⟨⟨_, hs⟩, hm, hv⟩, hl⟩, hb⟩ := hG
  exact ⟨lb, _, _, _, hl, hb, close_schema hb hs hm hv hof hks⟩

theorem kind_union : KindOk 32 32 wUnion := kind_of 32 32 wUnion partName_32 (fun h => absurd (congrArg ByteArray.size h) (by decide)) (by
  intro t hf hk
  obtain ⟨de, ds, ms, h1, h2, h3, h4, h5, h6⟩ := union_parts hf hk
  refine ⟨by rw [kvs_union hk h1 h2 h4 h5]; simp, ?_⟩
  intro E u hu H ps
  refine ppart.enter _ _ H _ ?_
  unfold ppart.W
  repeat refine forkB_intro (fun hh => (neq_bs (by decide) hh).elim) (fun _ => ?_)
  refine forkB_intro (fun _ => ?_) (fun hh => (eq_bs hh).elim)
  exact step_one (val := ifP t_p_ast_UnionDefinition) (ofA := fun b => (t_p_ast_UnionDefinition, b)) ps ((parseUnion_ok E t hk hf u [] (hu.no (by decide) (by decide))).imp fun b G h => take_union32 32 hf h))

theorem kind_schema : KindOk 24 24 wSchema := kind_of 24 24 wSchema partName_24 (fun h => absurd (congrArg ByteArray.size h) (by decide)) (by
  intro t hf hk
  obtain ⟨ds, os, h1, h2, h3, _⟩ := schema_parts hf hk
  refine ⟨by rw [kvs_schema hk h1 h2 h3]; simp, ?_⟩
  intro E u hu H ps
  refine ppart.enter _ _ H _ ?_
  unfold ppart.W
  repeat refine forkB_intro (fun hh => (neq_bs (by decide) hh).elim) (fun _ => ?_)
  refine forkB_intro (fun _ => ?_) (fun hh => (eq_bs hh).elim)
  exact step_one (val := ifP t_p_ast_SchemaDefinition) (ofA := fun b => (t_p_ast_SchemaDefinition, b)) ps ((parseSchema_ok E t hk hf u []).imp fun b G h => take_schema24 24 hf hk h))
end Go.Vx
