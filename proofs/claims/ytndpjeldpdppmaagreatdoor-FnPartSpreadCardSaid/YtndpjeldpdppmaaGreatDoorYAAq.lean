/- A part of the proof of what the last text of this claim says: QT5, QV6, QV7. Conditions: none. -/
import Derived.Test.YtndpjeldpdppmaaGreatDoorYAAp
set_option maxRecDepth 10000
namespace Go.Vx
open Go Go.Proofs


def TakeD (x : Option Addr) (X : List Nd) (G : Heap) : Prop := ∀ (H : Heap) (tk : Nat) (D : List Nd), TkAt G H tk D → D.length + X.length ≤ 5000 →
  Fn PP f_impl_taker_description #[.pointer (some ⟨tk, 0, none⟩), .pointer x] H (Took G tk H D X)

theorem takeD_str {b : Nat} {t : Tr} {G : Heap} (h : StrAt b t.n.text G) (hk : t.n.kind = 23) (hn : t.n.name = eB) (ha : t.n.alias = eB) (hks : t.ks = []) (hw : Ws t) : TakeD (some ⟨b, 0, none⟩) (flat t) G := by
  intro H tk D ht hD
  obtain ⟨lb, hl, hb⟩ := h
  refine description1.enter tk b H _ ?_
  unfold description1.W
  have bx := ht.ext.get _ _ hb (by simp)
  refine ⟨_, loadC_of bx rfl, _, loadC_of bx rfl, ?_⟩
  exact leaf_step ht (by omega) (KpT.refl H) lb hl ⟨23, eB, eB, t.n.text, 0, 0⟩ (same_leaf hks hw _ hk.symm hn.symm ha.symm rfl (fun h => by simp at h))

section
variable {G : Heap} {b lb nb : Nat} {t : Tr}

theorem item_spread {xs : Option Addr × Nat × Nat} {k0 : Value} (hl : LocAt lb G) (hn : NameAt nb t.n.name G)
    (hb : G[b]? = some (.cells #[k0, .pointer (some ⟨lb, 0, none⟩), .pointer (some ⟨nb, 0, none⟩), .slice xs.1 xs.2.1 xs.2.2] t_ast_FragmentSpread))
    (hs : TakeL f_impl_taker_directives xs (flatL t.ks) G) (hk : t.n.kind = 7) (ha : t.n.alias = eB) (hx : t.n.text = eB) (hw : Ws t) : ItemAt f_impl_taker_selection_2 t_p_ast_FragmentSpread 7 2 b t G := by
  refine ⟨⟨lb, nb, _, _, hl, hn, hb, rfl, rfl⟩, ?_, hk, ha, hx, hw⟩
  intro H tk c1 c2 D ht hD h1 h2
  have bx := ht.ext.get _ _ hb (by simp)
  refine inSel2.enter c1 c2 H _ ?_
  unfold inSel2.W
  refine ⟨_, loadC_of h1 rfl, _, loadC_of h2 rfl, xs, loadC_of bx rfl, ?_⟩
  refine (hs H tk _ ht hD).mono ?_
  intro v' H6 hT
  obtain rfl := hT.unit
  exact ⟨(), rfl, retK_intro hT⟩

end
end Go.Vx
set_option maxRecDepth 10000
namespace Go.Vx
open Go Go.Proofs


theorem descr_leaf {d : Tr} (h : Fine d) (hk : d.n.kind = 23) : d.ks = [] ∧ d.n.name = eB ∧ d.n.alias = eB := by
  obtain ⟨hf, hs⟩ := h.1.self
  refine ⟨?_, body_noname hf.2 (by omega), formed_alias hf (by omega)⟩
  cases hs with
  | leaf _ h => exact h
  | scalar _ _ h => omega
  | _ => omega

theorem kvs_descr {d : Tr} (hk : d.n.kind = 23) : kvs d = [strK d.n] := by
  rw [kvs_eq]; simp [bodyK, restK, hk]
theorem strK_kind (n : Nd) : (strK n).1 = 18 ∨ (strK n).1 = 19 := by unfold strK; split <;> simp
theorem strK_text (n : Nd) : (strK n).2 = n.text := by unfold strK; split <;> rfl


section
variable {E : PEnv} {t : Tr} {de ds ar : List Tr} {ty : Tr}

end


abbrev slP : Pat := ⟨Option Addr × Nat × Nat, fun x => .tuple #[.slice x.1 x.2.1 x.2.2, .nilIface]⟩
theorem kids_fine {t : Tr} (h : Fine t) : ∀ k ∈ t.ks, Fine k := fun _ hk => h.kid hk

def NoT (u : KV) : Prop := u.1 ≠ 4 ∧ u.1 ≠ 9 ∧ u.1 ≠ 2 ∧ u.1 ≠ 8

end Go.Vx
set_option maxRecDepth 10000
namespace Go.Vx
open Go Go.Proofs


abbrev sDescription : ByteArray := bs [100, 101, 115, 99, 114, 105, 112, 116, 105, 111, 110]
abbrev sSpread : ByteArray := bs [115, 112, 114, 101, 97, 100]
theorem partName_23 (H : Heap) : Fn PP f_impl_partName #[.int .i64 23] H fun v H' => v = .string sDescription ∧ H = H' := by
  refine partName.enter 23 H _ ?_
  unfold partName.W
  repeat refine forkB_intro (fun hh => absurd hh (by decide)) (fun _ => ?_)
  refine forkB_intro (fun _ => retK_intro ⟨rfl, rfl⟩) (fun hh => absurd hh (by decide))
theorem partName_7 (H : Heap) : Fn PP f_impl_partName #[.int .i64 7] H fun v H' => v = .string sSpread ∧ H = H' := by
  refine partName.enter 7 H _ ?_
  unfold partName.W
  repeat refine forkB_intro (fun hh => absurd hh (by decide)) (fun _ => ?_)
  refine forkB_intro (fun _ => retK_intro ⟨rfl, rfl⟩) (fun hh => absurd hh (by decide))
theorem EndT.noT {u : KV} (h : EndT u) : NoT u := ⟨h.no (by decide) (by decide), h.no (by decide) (by decide), h.no (by decide) (by decide), h.no (by decide) (by decide)⟩

section
variable {b : Nat} {t : Tr} {G : Heap}

theorem take_spread7 (kind : Int) (hf : Fine t) (h : ItemAt f_impl_taker_selection_2 t_p_ast_FragmentSpread 7 2 b t G) : TakeOk kind t_p_ast_FragmentSpread b (flat t) G := by
  intro H tk D ht hD
  refine tpartFragmentSpread.enter tk b kind H _ ?_
  unfold tpartFragmentSpread.W
  refine newB_intro fun H2 e2 hb2 x2 s2 => ?_
  have t2 := ht.grow x2
  refine ⟨_, loadC_of hb2 rfl, ?_⟩
  have := item_ok putSel2.enter (by unfold apartT; decide) (by decide) h t2 (fine_take hf.2.2 hD)
  refine (selectionFragmentSpread.enter tk b H2 _ this).mono ?_
  rintro v H4 ⟨rfl, k4, Y, hY, t4⟩
  exact ⟨(), rfl, retK_intro ⟨rfl, Y, hY, t4⟩⟩
theorem take_descr23 (kind : Int) {X : List Nd} (hX : X.length ≤ 400) (h : TakeD (some ⟨b, 0, none⟩) X G) : TakeOk kind t_p_ast_StringValue b X G := by
  intro H tk D ht hD
  refine tpartStringValue.enter tk b kind H _ ?_
  unfold tpartStringValue.W
  refine newB_intro fun H2 e2 hb2 x2 s2 => ?_
  have t2 := ht.grow x2
  refine ⟨_, loadC_of hb2 rfl, ?_⟩
  refine (h H2 tk D t2 (fine_take hX hD)).mono ?_
  rintro v H4 ⟨rfl, k4, Y, hY, t4⟩
  exact ⟨(), rfl, retK_intro ⟨rfl, Y, hY, t4⟩⟩
end

theorem parseDescr_ok (E : PEnv) (d : Tr) (hk : d.n.kind = 23) (hf : Fine d) (u : KV) (r : List KV) :
    POk E f_parser_parseDescription #[.pointer (some ⟨E.p, 0, none⟩)] (kvs d ++ u :: r) (u :: r) (fun b : Nat => .tuple #[.pointer (some ⟨b, 0, none⟩), .nilIface]) fun b G => TakeD (some ⟨b, 0, none⟩) (flat d) G := by
  intro H ps
  obtain ⟨hks, hn, ha⟩ := descr_leaf hf hk
  rw [kvs_descr hk, List.singleton_append] at ps
  refine parseDescription.enter _ H _ ?_
  unfold parseDescription.W
  have hp : ((strK d.n).1 == 18 || (strK d.n).1 == 19) = true := by rcases strK_kind d.n with h | h <;> simp [h]
  refine (Cx.start ps).call1 (peekDescription_ok E (strK d.n) _) true (by rw [hp]; rfl) fun H1 _ c1 => ?_
  refine forkB_intro (fun _ => ?_) (fun hh => absurd hh (by decide))
  refine c1.call (parseStringLiteral_ok E (strK d.n).1 (strK d.n).2 u r) fun b H2 _ c2 => ?_
  refine retK_intro ⟨b, rfl, c2.weak fun G hG => ?_⟩
  have := hG.2
  rw [strK_text] at this
  exact takeD_str this hk hn ha hks hf.2.1

theorem spread_name {t : Tr} (hf : Fine t) (hk : t.n.kind = 7) : t.n.name ≠ onB ∧ InK [10] t.ks := by
  obtain ⟨h1, h2⟩ := hf.1.self
  refine ⟨?_, ?_⟩
  · cases h1.2 <;> first | assumption | (exfalso; omega)
  · cases h2 with
    | spread _ h => exact h
    | _ => omega

theorem kvs_spread {t : Tr} (hk : t.n.kind = 7) (hds : InK [10] t.ks) : kvs t = kDots :: nmK t.n.name :: kvF t.ks := by
  have e2 : dirsK (kvL t.ks) = kvF t.ks := by
    unfold dirsK
    rw [kidsK_sel (l := t.ks) (selK_all hds (by simp)), brK_none]
  rw [kvs_eq]; simp [bodyK, hk, e2]

theorem parseFragmentName_ok (E : PEnv) (s : ByteArray) (hs : s ≠ onB) (u : KV) (l : List KV) :
    POk E f_parser_parseFragmentName #[.pointer (some ⟨E.p, 0, none⟩)] (nmK s :: u :: l) (u :: l) (fun b : Nat => .tuple #[.pointer (some ⟨b, 0, none⟩), .nilIface]) fun b G => NameAt b s G := by
  intro H ps
  refine parseFragmentName.enter _ H _ ?_
  unfold parseFragmentName.W
  refine ⟨s, ps.value, forkB_intro (fun hh => ?_) (fun _ => ?_)⟩
  · rw [bytes_beq] at hh; simp at hh; exact absurd hh hs
  refine (Cx.start ps).call (parseName_ok E s u l) fun nb H1 _ c1 => ?_
  exact retK_intro ⟨nb, rfl, c1.weak fun G h => h.2⟩

theorem parseSpread_ok (E : PEnv) (t : Tr) (hk : t.n.kind = 7) (hf : Fine t) (u : KV) (r : List KV) (h4 : u.1 ≠ 4) (h9 : u.1 ≠ 9) :
    POk E f_parser_parseFragment #[.pointer (some ⟨E.p, 0, none⟩)] (kvs t ++ u :: r) (u :: r) N2v fun x G => x.1 = t_p_ast_FragmentSpread ∧ ItemAt f_impl_taker_selection_2 t_p_ast_FragmentSpread 7 2 x.2 t G := by
  intro H ps
  obtain ⟨hno, hds⟩ := spread_name hf hk
  rw [kvs_spread hk hds, List.cons_append, List.cons_append] at ps
  refine parseFragment.enter _ H _ ?_
  unfold parseFragment.W
  obtain ⟨st, hst, _⟩ := ps.start
  refine ⟨_, hst, ?_⟩
  refine (Cx.start ps).call (expect_ok E kDots _ _ 6 rfl) fun _ H1 _ c1 => ?_
  obtain ⟨w2, w3, hw2⟩ := app_ne (kvF t.ks) u r
  rw [hw2] at c1
  refine ⟨fun y H' => y.1 = true ∧ Cx E H H' (nmK t.n.name :: w2 :: w3) fun _ => True, ?_, ?_⟩
  · refine c1.call1 (peek_ok E (nmK t.n.name) _ 15) true rfl fun H2 _ c2 => ?_
    refine forkB_intro (fun _ => ?_) (fun hh => absurd hh (by decide))
    refine ⟨t.n.name, c2.ps.value, ?_, c2.weak fun _ _ => trivial⟩
    rw [bytes_beq]
    simpa using hno
  rintro ⟨y, _⟩ H2 ⟨hy, c2⟩
  dsimp only at hy ⊢
  subst hy
  refine forkB_intro (fun _ => ?_) (fun hh => absurd hh (by decide))
  refine c2.call (parseFragmentName_ok E t.n.name hno w2 w3) fun nb H3 _ c3 => ?_
  rw [← hw2] at c3
  refine c3.call (p := slP) (parseDirectives_ok E t.ks hds (kids_fine hf) hf.few u r h4 h9) fun xs H4 _ c4 => ?_
  refine c4.call (loc_ok E _ _) fun lb H5 _ c5 => ?_
  refine c5.node (NewFragmentSpread_mk _ _ _ _ _) fun b H6 _ c6 => ?_
  refine retK_intro ⟨(t_p_ast_FragmentSpread, b), rfl, c6.weak fun G hG => ⟨rfl, ?_⟩⟩
  obtain ⟨⟨⟨⟨_, hn⟩, hs⟩, hl⟩, hb⟩ := hG
  exact item_spread hl hn hb hs hk (formed_alias hf.1.self.1 (by omega)) (body_notext hf.1.self.1.2 (by omega)) hf.2.1

theorem kind_descr : KindOk 23 23 sDescription := kind_of 23 23 sDescription partName_23 (fun h => absurd (congrArg ByteArray.size h) (by decide)) (by
  intro t hf hk
  refine ⟨by rw [kvs_descr hk]; simp, ?_⟩
  intro E u hu H ps
  refine ppart.enter _ _ H _ ?_
  unfold ppart.W
  repeat refine forkB_intro (fun hh => (neq_bs (by decide) hh).elim) (fun _ => ?_)
  refine forkB_intro (fun _ => ?_) (fun hh => (eq_bs hh).elim)
  refine (parseDescr_ok E t hk hf u [] H ps).mono ?_
  rintro _ H1 ⟨b, rfl, c1⟩
  refine ⟨some ⟨b, 0, none⟩, rfl, ?_⟩
  refine c1.call (p := ⟨Option Addr × Nat × Nat, fun x => .tuple #[.slice x.1 x.2.1 x.2.2, .nilIface]⟩) (alone_ok E [u] _ b) fun x H2 _ c2 => ?_
  refine retK_intro ⟨x, rfl, c2.weak fun G hG => ?_⟩
  obtain ⟨hO, h1, g, h2, h3⟩ := hG
  exact ⟨h1, g, _, b, h2, h3, take_descr23 23 hf.2.2 hO⟩)

theorem kind_spread : KindOk 7 7 sSpread := kind_of 7 7 sSpread partName_7 (fun h => absurd (congrArg ByteArray.size h) (by decide)) (by
  intro t hf hk
  refine ⟨by rw [kvs_spread hk (spread_name hf hk).2]; simp, ?_⟩
  intro E u hu H ps
  refine ppart.enter _ _ H _ ?_
  unfold ppart.W
  repeat refine forkB_intro (fun hh => (neq_bs (by decide) hh).elim) (fun _ => ?_)
  refine forkB_intro (fun _ => ?_) (fun hh => (eq_bs hh).elim)
  exact step_one (val := N2v) (ofA := fun x => x) ps ((parseSpread_ok E t hk hf u [] hu.noT.1 hu.noT.2.1).imp fun x G h => by rw [h.1]; exact take_spread7 7 hf h.2))

end Go.Vx
