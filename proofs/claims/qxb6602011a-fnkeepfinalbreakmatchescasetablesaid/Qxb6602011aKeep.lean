import Derived.Test.Qxb6602011aLines
import Derived.Test.Qxb6602011aAppLaw
import Derived.Test.Qxb6602011aChomp
import Derived.Deep.RegionLaw
namespace Go.Proofs.Qxb6602011a
set_option linter.unusedSimpArgs false
open Go.RowKit
open Plain

/-- What keepFinalBreak hands back, off FinalChomping's answer. -/
def keptL (z : Nat → Int) (n st : Nat) (r : Nat × Int) : List Int :=
  if r.2 = 45 then seg z st n else if r.2 = 43 then (seg z st n).set (r.1 - st) 45 else seg z st r.1 ++ 45 :: seg z r.1 n

theorem Text.congr {w : World} {a : Option Addr} {n : Nat} {z y : Nat → Int} (h : Text w a n z) (e : ∀ k, k < n → z k = y k) : Text w a n y := by
  intro k hk
  obtain ⟨b, off, rfl, hc⟩ := h k hk
  exact ⟨b, off, rfl, by rw [← e k hk]; exact hc⟩

theorem Text.seg {w : World} {a : Option Addr} {n c st : Nat} {z : Nat → Int} (h : Text w a n z) (hn : n ≤ c) : Text w (cutA a st c) (Plain.seg z st n).length (fun k => (Plain.seg z st n).getD k 0) := by
  rw [seg_length]
  refine (h.cut hn).congr (fun k hk => ?_)
  simp [Plain.seg, hk]

theorem Buf.notNil {w : World} {v : Value} {cs : List Int} (h : Buf w v cs) (hne : 0 < cs.length) : ∃ g c, v = .slice (some ⟨g, 0, none⟩) cs.length c := by
  rcases h.2 with ⟨_, h0⟩ | ⟨g, cap, cur, e, _⟩
  · omega
  · exact ⟨g, cap, e⟩

theorem Buf.stored {w : World} {g c : Nat} {cs : List Int} (h : Buf w (.slice (some ⟨g, 0, none⟩) cs.length c) cs) (j : Nat) (x : Int) : Buf (w.setCell ⟨g, j, none⟩ (.int .u8 x)) (.slice (some ⟨g, 0, none⟩) (cs.set j x).length c) (cs.set j x) := by
  have := (World.ownsRow.stored h j (.int .u8 x)).1
  unfold Buf
  rw [List.length_set, List.map_set]
  exact this

theorem Buf.cellAt {w : World} {g c : Nat} {cs : List Int} (h : Buf w (.slice (some ⟨g, 0, none⟩) cs.length c) cs) {j : Nat} (hj : j < cs.length) : ∃ u, w.cell? ⟨g, j, none⟩ = some u := by
  have := World.ownsRow.cellAt h j (by omega)
  rw [this]
  exact ⟨_, by rw [List.getElem?_map, List.getElem?_eq_getElem hj]; rfl⟩

theorem Buf.frozenAt {w : World} {g c : Nat} {cs : List Int} (h : Buf w (.slice (some ⟨g, 0, none⟩) cs.length c) cs) (j : Nat) : w.frozen? ⟨g, j, none⟩ = false := World.ownsRow.frozenAt h j

theorem Buf.nil (w : World) : Buf w (.slice none 0 0) [] := World.ownsRow_nil _ _ _ _

theorem App.below {w w' : World} {v' : Value} (h : App w (.slice none 0 0) w' v') : Below w.heap.size w w' := (Below.refl _ _).grown h.grown (Nat.le_refl _) (fun k hk => by simp [Value.ownBlock] at hk)

theorem App.fresh {w w' : World} {v' : Value} (h : App w (.slice none 0 0) w' v') : ∀ k, v'.ownBlock = some k → w.heap.size ≤ k := by
  intro k hk
  rcases h.moved with e | ⟨q, e, hq⟩
  · rw [e] at hk; simp [Value.ownBlock] at hk
  · rw [e] at hk; simp at hk; omega

theorem run_mid (a : Option Addr) (n c l h : Nat) (hl : l ≤ h) (hh : h ≤ c) (w : World) : (Instr.slice 22 (.slice a n c) (some (.int .i64 l)) (some (.int .i64 h)) none).run Try.prog w = .ok (.slice (cutA a l c) (h - l) (c - l)) w := by
  rw [run_slice_lh w 22 a n c elem22 .i64 .i64 l h (by omega) (by omega) (by omega), size_5]
  simp [sliced, Result.andThen, cutA]

/-- append(v, src...) as one step of a region that draws. -/
theorem step_append_buf {ops : Array Oper} {o : Oper} {a : Act} {w : World} {K : Act → World → Prop} {Q : Exit → Act → World → Prop} {E : Prop}
    (hg : o.guard = none) (s x : Operand) (hop : o.op = Op.call { callee := Callee.builtin Builtin.append, args := #[s, x], argTypes := #[22, 22] })
    (v : Value) (cs : List Int) (hs : a.eval s = v) (hb : Buf w v cs) (ao : Option Addr) (m c : Nat) (z : Nat → Int) (hx : a.eval x = .slice ao m c) (ht : Text w ao m z) (hn : ao = none → m = 0 ∧ c = 0) (hlen : cs.length + m ≤ 1099511627776)
    (hK : ∀ v' w', Buf w' v' (cs ++ (List.range m).map z) → App w v w' v' → K (a.put o.dst v') w') :
    if Region.wanted o (yielded ops a.tmps) = true then Oper.wp Try.prog o a w K Q else E := by
  have hw : Region.wanted o (yielded ops a.tmps) = true := by simp [Region.wanted, hg]
  rw [if_pos hw]
  obtain ⟨v', w', hr, h2, h3⟩ := run_append_buf w v cs hb ao m c z ht hn hlen o.type
  unfold Oper.wp execOp
  simp only [hop, resolve, invoke, builtin, Sem.run_bind, Sem.run_pure, Result.andThen_ok, List.map_toArray, List.map_cons, List.map_nil, hs, hx, hr]
  exact hK v' w' h2 h3

set_option maxRecDepth 100000 in
theorem keep_no (a : Option Addr) (n cap nb : Nat) (z : Nat → Int) (kind style st en : Int) (start : Nat) (w : World) (ht : Text w a n z) (hc : n ≤ cap) (hs : start ≤ n) (hnd : Nod w nb kind style st en) (hcol : collB kind style = false) (hcand : candB style en n = false) :
    Calls Try.prog 37 #[.slice a n cap, .pointer (some ⟨nb, 0, none⟩), .int .i64 start] w fun e w' => ∃ a' c', e = .returned (.slice a' (seg z start n).length c') ∧ Text w' a' (seg z start n).length (fun k => (seg z start n).getD k 0) ∧ Below w.heap.size w w' := by
  have HT : Hid (Text w a n z) := ht
  have HN : Hid (Nod w nb kind style st en) := hnd
  have hfr := run_from a n cap start hs
  clear ht hnd
  go_enter Try.func37, Try.ntmps37
  go_wp2_with (go_at_call 40; refine (finalChomping_no a n cap nb kind style st en _ HN.out hcol hcand).mono ?_; rintro e w' ⟨rfl, rfl⟩)
  go_ret
  refine ⟨cutA a start cap, cap - start, ?_, HT.out.seg hc, Below.refl _ _⟩
  rw [seg_length]; rfl


/-- A slice of the call's own, in a world that the call has brought about. -/
structure St (w0 w : World) (v : Value) (cs : List Int) : Prop where
  buf : Buf w v cs
  below : Below w0.heap.size w0 w
  own : ∀ k, v.ownBlock = some k → w0.heap.size ≤ k

theorem St.nil (w0 : World) : St w0 w0 (.slice none 0 0) [] := ⟨Buf.nil _, Below.refl _ _, fun k h => by simp [Value.ownBlock] at h⟩
theorem St.alloc {w0 w : World} {v : Value} {cs : List Int} (h : St w0 w v cs) (o : Obj) : St w0 (w.alloc o) v cs := ⟨h.buf.alloc o, h.below.alloc h.below.size o, h.own⟩
theorem St.app {w0 w w' : World} {v v' : Value} {cs cs' : List Int} (h : St w0 w v cs) (hb : Buf w' v' cs') (ha : App w v w' v') : St w0 w' v' cs' := by
  refine ⟨hb, h.below.grown ha.grown h.below.size h.own, fun k hk => ?_⟩
  rcases ha.moved with e | ⟨q, e, hq⟩
  · rw [e] at hk; exact h.own k hk
  · rw [e] at hk
    simp at hk
    have := h.below.size
    omega

theorem chomp_bounds {z : Nat → Int} {n h : Nat} (hh : h < n) : h + 1 ≤ (chomp z n h).1 ∧ (chomp z n h).1 ≤ n ∧ ((chomp z n h).2 = 45 ∨ (chomp z n h).2 = 43 → (chomp z n h).1 < n) := by
  unfold chomp
  split
  · rename_i q; exact ⟨Nat.le_refl _, by omega, fun _ => q.1⟩
  · split
    · rename_i q; exact ⟨Nat.le_succ _, Nat.le_of_lt q.1, fun _ => q.1⟩
    · exact ⟨Nat.le_refl _, by omega, fun e => by simp at e⟩

set_option maxRecDepth 100000 in
set_option maxHeartbeats 400000 in
theorem keep_yes (a : Option Addr) (n cap nb : Nat) (z : Nat → Int) (kind style en : Int) (s h start : Nat) (w : World) (ht : Text w a n z) (hno : a = none → n = 0 ∧ cap = 0) (hc : n ≤ cap) (hs : start ≤ s) (hn : n ≤ 1048576) (hh : Hdr z n s h) (hnd : Nod w nb kind style s en) (hcol : collB kind style = false) (hcand : candB style en n = true) :
    Calls Try.prog 37 #[.slice a n cap, .pointer (some ⟨nb, 0, none⟩), .int .i64 start] w fun e w' => ∃ a' c', e = .returned (.slice a' (keptL z n start (chomp z n h)).length c') ∧ Text w' a' (keptL z n start (chomp z n h)).length (fun k => (keptL z n start (chomp z n h)).getD k 0) ∧ Below w.heap.size w w' := by
  obtain ⟨b1, b2, b3⟩ := chomp_bounds (z := z) hh.lt
  have hsh := hh.le
  have hst : start ≤ n := by omega
  have hF := fun w ht hnd => finalChomping_yes a n cap nb z kind style en s h w ht hn hh hnd hcol hcand
  generalize hch : chomp z n h = r at *
  obtain ⟨at1, ind⟩ := r
  simp only at b1 b2 b3 hF
  have HF : Hid (∀ w, Text w a n z → Nod w nb kind style s en → Calls Try.prog 40 #[.slice a n cap, .pointer (some ⟨nb, 0, none⟩)] w fun e w' => e = .returned (.tuple #[.int .i64 at1, .int .u8 ind, .bool true]) ∧ w' = w) := hF
  have HT : Hid (Text w a n z) := ht
  have HN : Hid (Nod w nb kind style s en) := hnd
  have HO : Hid (a = none → n = 0 ∧ cap = 0) := hno
  have hfr := run_from a n cap start hst
  clear ht hnd hh hF hch hno hcol hcand
  cases h45 : (ind == 45) with
  | true =>
    have HK : Hid (keptL z n start (at1, ind) = seg z start n) := by
      show keptL z n start (at1, ind) = _
      unfold keptL; rw [if_pos (by simpa using h45)]
    clear b3
    go_enter Try.func37, Try.ntmps37
    go_wp2_with (go_at_call 40; refine (HF.out _ HT.out HN.out).mono ?_; rintro e w' ⟨rfl, rfl⟩)
    go_ret
    rw [HK.out]
    refine ⟨cutA a start cap, cap - start, ?_, HT.out.seg hc, Below.refl _ _⟩
    rw [seg_length]; rfl
  | false =>
    cases h43 : (ind == 43) with
    | true =>
      have hat : at1 < n := b3 (.inr (by simpa using h43))
      have HK : Hid (keptL z n start (at1, ind) = (seg z start n).set (at1 - start) 45) := by
        show keptL z n start (at1, ind) = _
        unfold keptL; rw [if_neg (by simpa using h45), if_pos (by simpa using h43)]
      clear b3
      go_enter Try.func37, Try.ntmps37
      go_wp2_with (first | (go_at_call 40; refine (HF.out _ HT.out HN.out).mono ?_; rintro e w' ⟨rfl, rfl⟩) | (at_builtin; refine wpList_append_buf rfl (.const (.slice none 0 0)) (.tmp 32) rfl _ [] rfl (Buf.nil _) (cutA a start cap) (n - start) (cap - start) (from' z start) rfl (HT.out.cut hc) (cutA_none HO.out) (by simp; omega) ?_))
      intro v1 w1 hb1 ha1
      have hb1' : Buf w1 v1 (seg z start n) := hb1
      obtain ⟨g, c1, rfl⟩ := hb1'.notNil (by rw [seg_length]; omega)
      have HB : Hid (Buf w1 (.slice (some ⟨g, 0, none⟩) (seg z start n).length c1) (seg z start n)) := hb1'
      have HBE : Hid (Below w'.heap.size w' w1) := ha1.below
      have hgr : w'.heap.size ≤ g := ha1.fresh g rfl
      obtain ⟨u, hu⟩ := hb1'.cellAt (j := at1 - start) (by rw [seg_length]; omega)
      have hfz := hb1'.frozenAt (at1 - start)
      have hsl : (seg z start n).length = n - start := seg_length _ _ _
      clear hb1 hb1' ha1
      rw [hsl]
      go_wp2
      go_ret
      rw [HK.out]
      have hbs := HB.out.stored (at1 - start) 45
      obtain ⟨a2, c2, he2, ht2⟩ := hbs.form
      simp only [Value.slice.injEq] at he2
      obtain ⟨rfl, _, rfl⟩ := he2
      refine ⟨_, c1, ?_, ht2, HBE.out.setCell hgr _⟩
      rw [List.length_set, seg_length]; rfl
    | false =>
      have HK : Hid (keptL z n start (at1, ind) = seg z start at1 ++ 45 :: seg z at1 n) := by
        show keptL z n start (at1, ind) = _
        unfold keptL; rw [if_neg (by simpa using h45), if_neg (by simpa using h43)]
      have hmid := run_mid a n cap start at1 (by omega) (by omega)
      have hfr2 := run_from a n cap at1 b2
      clear b3
      go_enter Try.func37, Try.ntmps37
      go_wp2_with (go_at_call 40; refine (HF.out _ HT.out HN.out).mono ?_; rintro e w' ⟨rfl, rfl⟩)
      have HTm : Hid (Text w'.drew (cutA a start cap) (at1 - start) (from' z start)) := (HT.out.upto b2).cut (by omega)
      have HTe : Hid (Text w'.drew (cutA a at1 cap) (n - at1) (from' z at1)) := HT.out.cut hc
      have HO1 : Hid (cutA a start cap = none → at1 - start = 0 ∧ cap - start = 0) := fun e => by have := cutA_none (q := start) HO.out e; omega
      have HO2 : Hid (cutA a at1 cap = none → n - at1 = 0 ∧ cap - at1 = 0) := cutA_none HO.out
      have S0 := St.nil w'.drew
      go_region_law (first
        | (refine step_append_buf rfl (.const (.slice none 0 0)) (.tmp 43) rfl (.slice none 0 0) [] rfl (Buf.nil _) (cutA a start cap) (at1 - start) (cap - start) (from' z start) (by simp [Act.eval, Act.put]) HTm.out HO1.out (by simp; omega) ?_; intro v1 w1 hb1 ha1; have S1 := S0.app hb1 ha1)
        | (refine step_append_buf rfl (.const (.slice none 0 0)) (.tmp 43) rfl (.slice none 0 0) [] rfl (Buf.nil _) (cutA a start cap) (at1 - start) (cap - start) (from' z start) (by simp [Act.eval, Act.put]) (HTm.out.below ((Below.refl _ _).alloc (Nat.le_refl _) _)) HO1.out (by simp; omega) ?_; intro v1 w1 hb1 ha1; have S1 := (S0.alloc _).app hb1 ha1; have HTo := (text_one w'.drew 45).grown ha1.grown (fun b off e => by simp [Value.ownBlock]))
        | (refine step_append_buf rfl (.tmp 44) (.tmp 45) rfl v1 _ (by simp [Act.eval, Act.put]) (hb1.alloc _) (some ⟨w1.heap.size, 0, none⟩) 1 1 (fun _ => 45) (by simp [Act.eval, Act.put]) (text_one w1 45) (fun h => by cases h) (by simp; omega) ?_; intro v2 w2 hb2 ha2; have S2 := (S1.alloc _).app hb2 ha2)
        | (refine step_append_buf rfl (.tmp 44) (.tmp 45) rfl v1 _ (by simp [Act.eval, Act.put]) hb1 (some ⟨w'.heap.size, 0, none⟩) 1 1 (fun _ => 45) (by simp [Act.eval, Act.put]) HTo (fun h => by cases h) (by simp; omega) ?_; intro v2 w2 hb2 ha2; have S2 := S1.app hb2 ha2)
        | (refine step_append_buf rfl (.tmp 46) (.tmp 49) rfl v2 _ (by simp [Act.eval, Act.put]) hb2 (cutA a at1 cap) (n - at1) (cap - at1) (from' z at1) (by simp [Act.eval, Act.put]) (HTe.out.below S2.below) HO2.out (by simp; omega) ?_; intro v3 w3 hb3 ha3; have S3 := S2.app hb3 ha3))
      all_goals
        have S4 : Hid (St w'.drew w3 v3 (seg z start at1 ++ 45 :: seg z at1 n)) := by
          show St w'.drew w3 v3 _
          have e : seg z start at1 ++ 45 :: seg z at1 n = [] ++ (List.range (at1 - start)).map (from' z start) ++ (List.range 1).map (fun _ => 45) ++ (List.range (n - at1)).map (from' z at1) := by
            rw [one_list]; simp [seg]
          rw [e]; exact S3
        clear S1 S2 S3 hb1 ha1 hb2 ha2 hb3 ha3
        go_wp2
        go_ret
        rw [HK.out]
        obtain ⟨a4, c4, e4, t4⟩ := S4.out.buf.form
        refine ⟨a4, c4, ?_, t4, ?_⟩
        · rw [← e4]; rfl
        · exact (Below.refl _ _).drew.trans S4.out.below

end Go.Proofs.Qxb6602011a
