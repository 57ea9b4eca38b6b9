/-
  (*Set).checkCodes (5): an error just where a module other than e has one of the handlers' codes.
-/
import Derived.Test.YbulkaajkFmtW2
import Derived.Maps.RangeWalk
import Derived.Lib.Builder
import Derived.Sort.KeysCollected
import Derived.BigQuiet
import Derived.Deep.QuietTactic
import Derived.Deep.RegionWith
namespace Go.Proofs.YbulkaajkFmt
open Go.RowKit Go.Extern.Stop Go.Stop Go.Extern
open Go.Maps (Keyed string_keyed)
open Go.Lib (run_neq_ptr_same)

theorem lt_of_cell {w : World} {p : Addr} {v : Value} (h : w.cell? p = some v) : p.block < w.heap.size := by
  unfold World.cell? at h
  split at h
  · rename_i hh; exact (Array.getElem?_eq_some_iff.1 hh).1
  · cases h

theorem run_neq_ptr_other {tp te : TypeId} {j : TypeInfo} {a b : Addr} {ca cb : Array Value} {ta tb : TypeId} (w : World) (hp : Ybaf.prog.underlying tp = some (.pointer te)) (hte : Ybaf.prog.info? te = some j) (hsz : j.size ≠ 0)
    (hne : a ≠ b) (ha : w.heap[a.block]? = some (.cells ca ta (0, 0))) (hb : w.heap[b.block]? = some (.cells cb tb (0, 0))) :
    (binOp .neq tp (.pointer (some a)) (.pointer (some b))).run Ybaf.prog w = .ok (.bool true) w := by
  have h : ∀ d : Nat, (Op.equalIn (d + 1) tp (.pointer (some a)) (.pointer (some b))).run Ybaf.prog w = .ok false w := fun d => by
    simp [Op.equalIn, run_underlying hp, sizeOf, typeInfo, hte, hsz, run_sameAddr_other w hne ha hb]
  simp only [binOp]
  simp [Op.equal, Op.maxDepth, h 9999]

/-- An entry's block: its codes lie at 'co'. -/
abbrev entObj (co : Value) : Obj := .cells #[.string ⟨#[]⟩, .string ⟨#[]⟩, .string ⟨#[]⟩, .nilFunc, .bool false, .map none, co, .int .i64 0] 34 (0, 0)

/-- The n entries: their blocks 'ent', their codes' blocks 'cb', their codes 'cs'. -/
structure Ents (w : World) (eb n : Nat) (ent cb : Nat → Nat) (cs : Nat → List ByteArray) : Prop where
  ptr : ∀ i, i < n → w.cell? ⟨eb, i, none⟩ = some (.pointer (some ⟨ent i, 0, none⟩))
  blk : ∀ i, i < n → w.heap[ent i]? = some (entObj (.slice (some ⟨cb i, 0, none⟩) (cs i).length (cs i).length))
  strs : ∀ i, i < n → StrsAt w (cb i) (cs i)
  short : ∀ i, i < n → (cs i).length ≤ 1024

theorem ent_key {w : World} {b : Nat} {co : Value} (h : w.heap[b]? = some (entObj co)) : w.cell? ⟨b, 0, none⟩ = some (.string ⟨#[]⟩) := by simp [World.cell?, h]
theorem ent_codes {w : World} {b : Nat} {co : Value} (h : w.heap[b]? = some (entObj co)) : w.cell? ⟨b, 6, none⟩ = some co := by simp [World.cell?, h]
theorem lt_of_blk {w : World} {b : Nat} {o : Obj} (h : w.heap[b]? = some o) : b < w.heap.size := (Array.getElem?_eq_some_iff.1 h).1

theorem StrsAt.below {w w' : World} {b : Nat} {ss : List ByteArray} (h : StrsAt w b ss) {B : Nat} (hb : Below B w w') (hB : w.heap.size ≤ B) : StrsAt w' b ss := by
  intro i hi
  have h1 := h i hi
  rw [hb.cell (Nat.lt_of_lt_of_le (lt_of_cell h1) hB), h1]

theorem Ents.below {w w' : World} {eb n : Nat} {ent cb : Nat → Nat} {cs : Nat → List ByteArray} (h : Ents w eb n ent cb cs) {B : Nat} (hb : Below B w w') (hB : w.heap.size ≤ B) : Ents w' eb n ent cb cs where
  ptr i hi := by rw [hb.cell (Nat.lt_of_lt_of_le (lt_of_cell (h.ptr i hi)) hB), h.ptr i hi]
  blk i hi := by rw [hb.block _ (Nat.lt_of_lt_of_le (lt_of_blk (h.blk i hi)) hB), h.blk i hi]
  strs i hi := (h.strs i hi).below hb hB
  short := h.short

theorem ownsMap_below {w w' : World} {k : TypeId} {R : Value → Option (DataW Unit × List MemPlace)} {b n : Nat} {D : DataW Unit} (h : w.ownsMap Ybaf.prog k R b n D) {B : Nat} (hb : Below B w w') (hB : w.heap.size ≤ B) : w'.ownsMap Ybaf.prog k R b n D := by
  have hl := h.lt
  obtain ⟨es, clock, hh, r⟩ := h
  exact ⟨es, clock, (hb.block b (by omega)).trans hh, r⟩

/-- How a handler reads: all that are laid are nil. -/
def hRead (v : Value) : Option (DataW Unit × List MemPlace) := match v with | .nilFunc => some (.lit (.bool true), []) | _ => none
theorem hRead_inv (v : Value) (y : DataW Unit × List MemPlace) (h : hRead v = some y) : ∃ _ : Unit, v = .nilFunc := by
  unfold hRead at h
  split at h
  · exact ⟨(), rfl⟩
  · cases h

theorem law9 : Keyed Ybaf.prog 9 := string_keyed Ybaf.underlying9

/-- A module other than e has one of the codes. -/
def Clash (n : Nat) (ent : Nat → Nat) (ep : Nat) (cs : Nat → List ByteArray) (D : DataW Unit) : Prop :=
  ∃ i, i < n ∧ ent i ≠ ep ∧ ∃ x : List UInt8, Maps.has D (.string x) = true ∧ (⟨x.toArray⟩ : ByteArray) ∈ cs i

set_option maxRecDepth 100000 in
set_option maxHeartbeats 1000000 in
theorem check_any (F : Interp) (sb eb n ep mb m : Nat) (ent cb : Nat → Nat) (cs : Nat → List ByteArray) (D : DataW Unit) (w : World) (hF : F.answers w.tape) (hn : n ≤ 1024)
    (hs : w.cell? ⟨sb, 3, none⟩ = some (.slice (some ⟨eb, 0, none⟩) n n)) (he : Ents w eb n ent cb cs) (ce : Value) (hk : w.heap[ep]? = some (entObj ce))
    (hm : w.ownsMap Ybaf.prog 9 hRead mb m D) :
    Calls Ybaf.prog 5 #[.pointer (some ⟨sb, 0, none⟩), .pointer (some ⟨ep, 0, none⟩), .map (some mb)] w fun e w' =>
      ((e = .returned .nilIface ∧ ¬ Clash n ent ep cs D) ∨ ((∃ g, e = .returned (.iface 64 (.pointer (some ⟨g, 0, none⟩)))) ∧ Clash n ent ep cs D)) ∧ Below w.heap.size w w' := by
  go_enter Ybaf.func5, Ybaf.ntmps5
  go_wp2
  go_loopw [15] (fun i wr => ∃ k : Nat, k ≤ n ∧ i = .int .i64 k ∧ ¬ Clash k ent ep cs D ∧ Below w.heap.size w wr) (fun i _ => n - (intOf i).toNat)
  case atStart => exact ⟨0, Nat.zero_le _, rfl, fun ⟨i, hi, _⟩ => by omega, Below.refl _ _⟩
  case round =>
    obtain ⟨k, hkn, rfl, hno, hb⟩ := hrel
    obtain ⟨wo, hwo⟩ : ∃ wo, wo = wr := ⟨_, rfl⟩
    subst hwo
    by_cases hlt : k < n
    · have he1 := he.below hb (Nat.le_refl _)
      have hm1 := ownsMap_below hm hb (Nat.le_refl _)
      have hp := he1.ptr k hlt
      have hlt' : (k : Int) < (n : Int) := by omega
      go_wp2_with (first
        | (at_range; refine wpList_range_own _ rfl _ 31 rfl 9 36 law9 Ybaf.underlying31 _ mb m _ rfl hm1 ?_; intro w0 hrg0 hg0 hs0)
        | go_in)
      go_frame
      go_loopw [9] (fun _ wi => ∃ (left : Lit → Bool) (cnt : Nat), wi.ranges Ybaf.prog 9 hRead mb wo.heap.size m D left cnt ∧ Below wo.heap.size wo wi ∧
          ∀ x : List UInt8, Maps.has D (.string x) = true → left (.string x) = false → ent k ≠ ep → (⟨x.toArray⟩ : ByteArray) ∉ cs k)
        (fun _ wi => wi.rangeLeft mb wo.heap.size)
      case atStart => exact ⟨_, _, hrg0, (Below.refl _ _).grown hg0 (Nat.le_refl _) (fun j hj => by cases hj), fun x h1 h2 => by rw [h1] at h2; cases h2⟩
      case round =>
        obtain ⟨left, cnt, hrg, hb1, hdone⟩ := hrel
        clear hrg0 hg0 hs0
        have he2 := he1.below hb1 (Nat.le_refl _)
        go_wp2_with (first
          | (at_next; refine wpList_next_ranges _ rfl _ rfl 9 law9 hRead encStr (fun _ : Unit => Value.nilFunc) (fun key kl hk => by obtain ⟨x, hx, _⟩ := Maps.keyOf_str Ybaf.underlying9 hk; exact ⟨x, hx⟩) hRead_inv mb wo.heap.size m _ _ _ rfl hrg ?_ ?_)
          | go_in)
        · intro hc0 hl0
          go_wp2
          refine ⟨⟨k + 1, by omega, by go_num, ?_, hb.trans (hb1.mono hb.size)⟩, by simp [intOf]; omega⟩
          rintro ⟨i, hi, hne, x, hx, hxm⟩
          by_cases hik : i = k
          · subst hik; exact hdone x hx (hl0 _) hne hxm
          · exact hno ⟨i, by omega, hne, x, hx, hxm⟩
        · intro x kl yd yp w2 cnt2 hkey hlk hv hat hrg2 hlt2 hg2 hs2 hen
          obtain ⟨x', ex, rfl, hxl⟩ := Maps.keyOf_str Ybaf.underlying9 hkey
          obtain rfl : x = x' := encStr_inj ex
          have hb2 : Below wo.heap.size wo w2 := hb1.grown hg2 hb1.size (fun j hj => by cases hj; exact Nat.le_refl _)
          have he3 := he1.below hb2 (Nat.le_refl _)
          have hk3 : w2.heap[ep]? = some (entObj ce) := by rw [hb2.block _ (Nat.lt_of_lt_of_le (lt_of_blk hk) hb.size), hb.block _ (lt_of_blk hk), hk]
          obtain ⟨j34, hj34, hz34⟩ : ∃ j, Ybaf.prog.info? 34 = some j ∧ j.size ≠ 0 := ⟨_, rfl, by decide⟩
          clear hs2
          have hcode := ent_codes (he3.blk k hlt)
          by_cases hpe : ent k = ep
          · have hq := run_neq_ptr_same (P := Ybaf.prog) w2 ⟨ep, 0, none⟩ Ybaf.underlying27 hj34
            rw [hpe] at hcode ⊢
            go_wp2
            exact ⟨⟨_, cnt2, hrg2⟩, by rw [hrg2.left_eq, hrg.left_eq]; exact hlt2⟩
          · have hq := run_neq_ptr_other w2 Ybaf.underlying27 hj34 hz34 (a := ⟨ent k, 0, none⟩) (b := ⟨ep, 0, none⟩) (fun h => hpe (congrArg Addr.block h)) (he3.blk k hlt) hk3
            go_wp2_with fail
            refine (contains_any (cb k) (cs k) (cs k).length ⟨x.toArray⟩ _ (he3.short k hlt) (he3.strs k hlt)).mono ?_
            rintro e w' ⟨rfl, rfl⟩
            by_cases hin : (⟨x.toArray⟩ : ByteArray) ∈ cs k
            · rw [(hasS_iff _ _).2 hin]
              have hcl : Clash n ent ep cs D := ⟨k, hlt, hpe, x, Maps.has_true_of_atKey hat, hin⟩
              have hkey3 := ent_key hk3
              have hkey4 := ent_key (he3.blk k hlt)
              have hbw : Below w.heap.size w w' := hb.trans (hb2.mono hb.size)
              have hF3 : F.answers w'.tape := by rw [hb2.tape, hb.tape]; exact hF
              go_wp2
              go_region_with (go_at_call 7; refine (errorf_any F ⟨#[]⟩ ⟨x.toArray⟩ ⟨#[]⟩ w'.heap.size _ (by exact hF3) (by go_simp) (by go_simp) (by go_simp)).mono ?_; rintro e w3 ⟨⟨g, rfl⟩, hb3⟩)
              all_goals go_wp2
              all_goals go_ret
              all_goals
                refine ⟨.inr ⟨⟨_, rfl⟩, hcl⟩, Below.trans ?_ (hb3.mono ?_)⟩
                · first | exact (hbw.alloc hbw.size _).drew | exact hbw.drew.alloc hbw.size _ | exact hbw.alloc hbw.size _
                · have := hbw.size; simp; omega
            · have hf : hasS (cs k) ⟨x.toArray⟩ = false := by
                cases h : hasS (cs k) ⟨x.toArray⟩
                · rfl
                · exact absurd ((hasS_iff _ _).1 h) hin
              rw [hf]
              have hdone' : ∀ y : List UInt8, Maps.has D (.string y) = true → (left (.string y) && !(Lit.string y).sameKey (.string x)) = false → ent k ≠ ep → (⟨y.toArray⟩ : ByteArray) ∉ cs k := by
                intro y h1 h2 h3
                by_cases hyx : y = x
                · subst hyx; exact hin
                · refine hdone y h1 ?_ h3
                  have : (Lit.string y).sameKey (.string x) = false := Maps.sameKey_ne (by simpa using hyx)
                  rw [this] at h2
                  simpa using h2
              go_wp2
              exact ⟨⟨_, cnt2, hrg2, hb2, hdone'⟩, by rw [hrg2.left_eq, hrg.left_eq]; exact hlt2⟩
    · go_wp2
      go_ret
      have : k = n := by omega
      subst this
      exact ⟨.inl ⟨rfl, hno⟩, hb⟩

end Go.Proofs.YbulkaajkFmt
