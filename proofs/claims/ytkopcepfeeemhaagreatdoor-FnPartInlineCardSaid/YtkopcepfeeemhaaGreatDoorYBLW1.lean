/- A part of the proof of what the last text of this claim says: LW1. Conditions: none. -/
import Derived.Test.YtkopcepfeeemhaaGreatDoorCards
import Derived.Test.YtkopcepfeeemhaaGreatDoorTie
import Derived.Lay
import Derived.LaidOnce
import Derived.SevenTiedAt
import Derived.Lib.LaidU8T
import Derived.Test.YtkopcepfeeemhaaGreatDoorYBAn
set_option maxRecDepth 100000
namespace Go.Vx
open Go Go.Proofs Go.RowKit Go.ChangeShapes Go.WideShapes

theorem seat_laidOut : laidOutB Tryz.prog = true := by kernel_rfl
theorem seat_own : ownKnob Tryz.prog.godebug = none := by kernel_rfl
theorem rd22 : Tryz.prog.readableRec 22 = true := by kernel_rfl
theorem rd5 : Tryz.prog.readableRec 5 = true := by kernel_rfl
theorem rd23 : Tryz.prog.readableRec 23 = true := by kernel_rfl
theorem sz22 : 22 < Tryz.prog.types.size := of_decide_eq_true (by kernel_rfl)
theorem sz5 : 5 < Tryz.prog.types.size := of_decide_eq_true (by kernel_rfl)
theorem sz23 : 23 < Tryz.prog.types.size := of_decide_eq_true (by kernel_rfl)

/- The tables of unicode/utf8, as the listed variables read -/

def u8ren : Shelf.Ren := ⟨fun x => x, fun t => if t = 119 then 399 else if t = 138 then 401 else if t = 139 then 402 else t, fun g => if g = 3 then 0 else if g = 4 then 1 else g⟩
theorem u8types : U8Types Tryz.prog u8ren := { t5 := by kernel_rfl, t119 := by kernel_rfl, t138 := by kernel_rfl, t139 := by kernel_rfl }
theorem u8extra : U8Extra Tryz.prog u8ren := { n3 := by kernel_rfl, n4 := by kernel_rfl, y3 := by kernel_rfl, y4 := by kernel_rfl, c5 := by kernel_rfl, c119 := by kernel_rfl, c138 := by kernel_rfl }
theorem first_data : YtkopcepfeeemhaaGreatDoor.Rows.laid_unicode_utf8_first = Lib.firstData := by kernel_rfl
theorem accept_data : (YtkopcepfeeemhaaGreatDoor.Rows.laid_unicode_utf8_acceptRanges : DataW Unit) = Lib.acceptData := by kernel_rfl
abbrev laid3 : List (String × DataW Unit) := [("unicode/utf8.acceptRanges", YtkopcepfeeemhaaGreatDoor.Rows.laid_unicode_utf8_acceptRanges), ("bytes.ErrTooLarge", YtkopcepfeeemhaaGreatDoor.Rows.laid_bytes_ErrTooLarge), ("unicode/utf8.first", YtkopcepfeeemhaaGreatDoor.Rows.laid_unicode_utf8_first)]

theorem tabs_of_laid (w : World) (h : laidMetH Tryz.prog laid3 w) : TabsAt w.heap.size w.heap := by
  rw [MakeChecks.laidMetH_plain _ _ _ (by kernel_rfl)] at h
  have h3 := Lib.laidMet.reads h (n := "unicode/utf8.first") (d := YtkopcepfeeemhaaGreatDoor.Rows.laid_unicode_utf8_first) (by simp)
  have h4 := Lib.laidMet.reads h (n := "unicode/utf8.acceptRanges") (d := YtkopcepfeeemhaaGreatDoor.Rows.laid_unicode_utf8_acceptRanges) (by simp)
  rw [first_data] at h3
  rw [accept_data] at h4
  have hT : Lib.Utf8Tabs 0 1 w := utf8Tabs_of_readsT u8types u8extra h3 h4
  have lt_of : ∀ (g o : Nat) (v : Value), w.cell? ⟨g, o, none⟩ = some v → g < w.heap.size := by
    intro g o v hv
    refine Decidable.byContradiction fun hn => ?_
    simp [World.cell?, Array.getElem?_eq_none (Nat.le_of_not_lt hn)] at hv
  refine ⟨fun w' e => ?_, lt_of _ _ _ (hT.1 0 (by omega)), lt_of _ _ _ (hT.2 0 (by omega)).1⟩
  refine ⟨fun c hc => ?_, fun i hi => ?_⟩
  · rw [← hT.1 c hc]; simp only [World.cell?, e]
  · constructor
    · rw [← (hT.2 i hi).1]; simp only [World.cell?, e]
    · rw [← (hT.2 i hi).2]; simp only [World.cell?, e]

/-- What a walk for every argument gives of a law of this seat. -/
theorem contractG (f : FuncId) (fn : Func) (hp : fn.params = #[22, 5, 23]) (hr : fn.resultTypes = #[4]) (spec : ChangeSpec) (hv : spec.vars = [])
    (hs : ∀ (H : Type) (d1 d2 d3 : DataW H), spec.fn H [d1, d2, d3] = { results := [.lit (.bool true)], args := [d1, d2, d3] })
    (hF : ∀ (b o n c : Nat) (ds : List Nd) (H : Heap), NodesAt H b o ds → n = ds.length → n ≤ c → ∀ which : Int, 0 ≤ which ∧ which ≤ 255 → ∀ (byA : Option Addr) (byN byC : Nat) (ys : List Int), SlcAt H byA byN (ys.map (.int .u8 ·)) → (∀ y ∈ ys, 0 ≤ y ∧ y ≤ 255) → TabsAt H.size H →
      Go.Vx.Fn PP f #[.slice (some ⟨b, o, none⟩) n c, .int .u8 which, .slice byA byN byC] H fun v H' => v = .bool true ∧ Ext [] H H')
    (hN : ∀ (a : Option Addr) (c : Nat) (which : Int) (byA : Option Addr) (byN byC : Nat) (H : Heap), Go.Vx.Fn PP f #[.slice a 0 c, .int .u8 which, .slice byA byN byC] H fun v H' => v = .bool true ∧ Ext [] H H')
    (H : Type) (enc : TypeId × Value → H) (W : World) (base : Nat) (args : Array Value) (ds gs : List (DataW H)) (before : List MemPlace)
    (hTb : TabsAt W.heap.size W.heap)
    (hval : ∀ (j : Nat) t v, fn.params[j]? = some t → args[j]? = some v → Value.okWide Tryz.prog W .any base t v)
    (hW : DataW.Whole enc Tryz.prog fn.params.toList spec.vars false W args.toList ds gs before) :
    Calls Tryz.prog f args W fun e W' => ∃ v, e = .returned v ∧ spec.post enc Tryz.prog fn false true false false W args v W' := by
  have hW' := hW
  obtain ⟨p, q, hA, hV, rfl, hfz, hnd⟩ := hW
  rw [hp] at hA hval
  rw [hv] at hV
  obtain ⟨v0, vs0, d0, ds0, p0, q0, hargs, rfl, rfl, h0, r0⟩ := trodAll_cons hA
  obtain ⟨v1, vs1, d1, ds1, p1, q1, rfl, rfl, rfl, h1, r1⟩ := trodAll_cons r0
  obtain ⟨v2, vs2, d2, ds2, p2, q2, rfl, rfl, rfl, h2, r2⟩ := trodAll_cons r1
  obtain ⟨rfl, rfl, rfl⟩ := trodAll_nil r2
  obtain rfl : args = #[v0, v1, v2] := by cases args; simp_all
  obtain ⟨rfl, rfl⟩ := trodVars_none hV
  have k1 := h1
  obtain ⟨which, rfl, _, _, ww⟩ := open_int Tryz.underlying5 (hval 1 5 v1 rfl rfl) h1
  have hwb : 0 ≤ which ∧ which ≤ 255 := by simpa [Lit.wf, IntKind.min, IntKind.max, IntKind.signed, IntKind.bits] using ww
  have s0 := okWide_slice Tryz.underlying22 (hval 0 22 v0 rfl rfl)
  have s2 := okWide_slice Tryz.underlying23 (hval 2 23 v2 rfl rfl)
  have n0 := open_nodes h0 s0
  obtain ⟨byA, byN, byC, ys, e2, hy, hyr⟩ := open_bytes h2 s2
  have walk : Calls Tryz.prog f #[v0, .int .u8 which, v2] W fun e W' => e = .returned (.bool true) ∧ Below W.heap.size W W' := by
    have fin : Go.Vx.Fn PP f #[v0, .int .u8 which, v2] W.heap fun v H' => v = .bool true ∧ Ext [] W.heap H' := by
      rw [e2]
      rcases n0 with ⟨a, c, rfl⟩ | ⟨b, o, c, nds, rfl, hnd, hc⟩
      · exact hN a c which byA byN byC W.heap
      · exact hF b o nds.length c nds W.heap hnd rfl hc which hwb byA byN byC ys hy hyr hTb
    refine (fin W rfl).mono fun e W' he => ?_
    obtain ⟨v, rfl, hsame, rfl, hx⟩ := he
    exact ⟨rfl, sameBelow hsame hx⟩
  have hlt := hW'.lt
  refine walk.mono fun e W' ⟨he, hb⟩ => ?_
  subst he
  refine ⟨_, rfl, _, _, _, [], p0 ++ (p1 ++ (p2 ++ [])), [], hW', ?_, ?_, ?_, hb.frame _, fun h => by cases h⟩
  · rw [hr, List.append_nil, hs]
    exact trodAll_mk1 (shut_bool Tryz.underlying4 true)
  · rw [hp, List.append_nil, hs]
    exact trodAll_cons_mk (Below.trod seat_laidOut rd22 sz22 h0 hb fun x hx => hlt x (by simp [hx]))
      (trodAll_cons_mk (Below.trod seat_laidOut rd5 sz5 k1 hb fun x hx => hlt x (by simp [hx]))
        (trodAll_cons_mk (Below.trod seat_laidOut rd23 sz23 h2 hb fun x hx => hlt x (by simp [hx])) trodAll_mk0))
  · rw [hv, List.append_nil, hs]
    rfl

/-- The same of a law of two numbers. -/
theorem contractO (f : FuncId) (fn : Func) (hp : fn.params = #[22, 5, 5]) (hr : fn.resultTypes = #[4]) (spec : ChangeSpec) (hv : spec.vars = [])
    (hs : ∀ (H : Type) (d1 d2 d3 : DataW H), spec.fn H [d1, d2, d3] = { results := [.lit (.bool true)], args := [d1, d2, d3] })
    (hF : ∀ (b o n c : Nat) (ds : List Nd) (H : Heap), NodesAt H b o ds → n = ds.length → ∀ which other : Int, 0 ≤ which ∧ which ≤ 255 → 0 ≤ other ∧ other ≤ 255 → TabsAt H.size H →
      Go.Vx.Fn PP f #[.slice (some ⟨b, o, none⟩) n c, .int .u8 which, .int .u8 other] H fun v H' => v = .bool true ∧ Ext [] H H')
    (hN : ∀ (a : Option Addr) (c : Nat) (which other : Int), 0 ≤ other ∧ other ≤ 255 → ∀ (H : Heap), Go.Vx.Fn PP f #[.slice a 0 c, .int .u8 which, .int .u8 other] H fun v H' => v = .bool true ∧ Ext [] H H')
    (H : Type) (enc : TypeId × Value → H) (W : World) (base : Nat) (args : Array Value) (ds gs : List (DataW H)) (before : List MemPlace)
    (hTb : TabsAt W.heap.size W.heap)
    (hval : ∀ (j : Nat) t v, fn.params[j]? = some t → args[j]? = some v → Value.okWide Tryz.prog W .any base t v)
    (hW : DataW.Whole enc Tryz.prog fn.params.toList spec.vars false W args.toList ds gs before) :
    Calls Tryz.prog f args W fun e W' => ∃ v, e = .returned v ∧ spec.post enc Tryz.prog fn false true false false W args v W' := by
  have hW' := hW
  obtain ⟨p, q, hA, hV, rfl, hfz, hnd⟩ := hW
  rw [hp] at hA hval
  rw [hv] at hV
  obtain ⟨v0, vs0, d0, ds0, p0, q0, hargs, rfl, rfl, h0, r0⟩ := trodAll_cons hA
  obtain ⟨v1, vs1, d1, ds1, p1, q1, rfl, rfl, rfl, h1, r1⟩ := trodAll_cons r0
  obtain ⟨v2, vs2, d2, ds2, p2, q2, rfl, rfl, rfl, h2, r2⟩ := trodAll_cons r1
  obtain ⟨rfl, rfl, rfl⟩ := trodAll_nil r2
  obtain rfl : args = #[v0, v1, v2] := by cases args; simp_all
  obtain ⟨rfl, rfl⟩ := trodVars_none hV
  have k1 := h1
  obtain ⟨which, rfl, _, _, ww⟩ := open_int Tryz.underlying5 (hval 1 5 v1 rfl rfl) h1
  have hwb : 0 ≤ which ∧ which ≤ 255 := by simpa [Lit.wf, IntKind.min, IntKind.max, IntKind.signed, IntKind.bits] using ww
  have s0 := okWide_slice Tryz.underlying22 (hval 0 22 v0 rfl rfl)
  have n0 := open_nodes h0 s0
  have k2 := h2
  obtain ⟨other, rfl, _, _, wo⟩ := open_int Tryz.underlying5 (hval 2 5 v2 rfl rfl) h2
  have hob : 0 ≤ other ∧ other ≤ 255 := by simpa [Lit.wf, IntKind.min, IntKind.max, IntKind.signed, IntKind.bits] using wo
  have walk : Calls Tryz.prog f #[v0, .int .u8 which, .int .u8 other] W fun e W' => e = .returned (.bool true) ∧ Below W.heap.size W W' := by
    have fin : Go.Vx.Fn PP f #[v0, .int .u8 which, .int .u8 other] W.heap fun v H' => v = .bool true ∧ Ext [] W.heap H' := by
      rcases n0 with ⟨a, c, rfl⟩ | ⟨b, o, c, nds, rfl, hnd, hc⟩
      · exact hN a c which other hob W.heap
      · exact hF b o nds.length c nds W.heap hnd rfl which other hwb hob hTb
    refine (fin W rfl).mono fun e W' he => ?_
    obtain ⟨v, rfl, hsame, rfl, hx⟩ := he
    exact ⟨rfl, sameBelow hsame hx⟩
  have hlt := hW'.lt
  refine walk.mono fun e W' ⟨he, hb⟩ => ?_
  subst he
  refine ⟨_, rfl, _, _, _, [], p0 ++ (p1 ++ (p2 ++ [])), [], hW', ?_, ?_, ?_, hb.frame _, fun h => by cases h⟩
  · rw [hr, List.append_nil, hs]
    exact trodAll_mk1 (shut_bool Tryz.underlying4 true)
  · rw [hp, List.append_nil, hs]
    exact trodAll_cons_mk (Below.trod seat_laidOut rd22 sz22 h0 hb fun x hx => hlt x (by simp [hx]))
      (trodAll_cons_mk (Below.trod seat_laidOut rd5 sz5 k1 hb fun x hx => hlt x (by simp [hx]))
        (trodAll_cons_mk (Below.trod seat_laidOut rd5 sz5 k2 hb fun x hx => hlt x (by simp [hx])) trodAll_mk0))
  · rw [hv, List.append_nil, hs]
    rfl

end Go.Vx
