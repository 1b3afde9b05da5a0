/-
  SEAT b6603292aM. resource.merge, resource.ZZmerge by their contracts.
-/
import Derived.Test.Qxb6603292aModsPlainM
import Derived.Test.Qxb6603292aModsSearch
import Derived.Test.Qxb6603292aModsMade
import Derived.Deep.RegionLaw
namespace Go.Proofs.Qxb6603292aMods
open Go.ChangeShapes Go.WideShapes Go.ChangeAt Go.RowKit

/-- Nothing but block g has turned. -/
structure Only (g : Nat) (w w' : World) : Prop where
  os : w'.os = w.os
  tape : w'.tape = w.tape
  output : w'.output = w.output
  size : w'.heap.size = w.heap.size
  block : ∀ k, k ≠ g → w'.heap[k]? = w.heap[k]?
theorem Only.refl (g : Nat) (w : World) : Only g w w := ⟨rfl, rfl, rfl, rfl, fun _ _ => rfl⟩
theorem Only.trans {g : Nat} {a b c : World} (h : Only g a b) (k : Only g b c) : Only g a c :=
  ⟨k.os.trans h.os, k.tape.trans h.tape, k.output.trans h.output, k.size.trans h.size, fun i hi => (k.block i hi).trans (h.block i hi)⟩
theorem Only.drewN {g : Nat} {a b : World} (h : Only g a b) (q : Nat) : Only g a (b.drewN q) := ⟨h.os, h.tape, h.output, h.size, h.block⟩
theorem Only.drew {g : Nat} {a b : World} (h : Only g a b) : Only g a b.drew := ⟨h.os, h.tape, h.output, h.size, h.block⟩
theorem Only.setCell {g : Nat} {a b : World} (h : Only g a b) (o : Nat) (v : Value) : Only g a (b.setCell ⟨g, o, none⟩ v) :=
  h.trans ⟨rfl, rfl, rfl, by simp [World.setCell], fun k hk => Below.heap_setCell _ _ _ _ hk⟩
theorem Only.setRow {g : Nat} {a b : World} (h : Only g a b) (cs : Array Value) : Only g a (b.setRow g cs) :=
  h.trans ⟨rfl, rfl, rfl, by simp [World.setRow], fun k hk => setRow_other b g k cs hk⟩
theorem Only.below {g B : Nat} {w w' : World} (h : Only g w w') (hB : B ≤ g) : Below B w w' := ⟨h.os, h.tape, h.output, Nat.le_of_eq h.size.symm, fun k hk => h.block k (by omega)⟩
theorem Only.cell {g : Nat} {w w' : World} (h : Only g w w') {p : Addr} (hp : p.block ≠ g) : w'.cell? p = w.cell? p := World.cell?_of_block (w := w) (h.block p.block hp)
theorem Only.row {g k : Nat} {w w' : World} {L : List ByteArray} (h : Only g w w') (hk : k ≠ g) (hr : Row w k L) : Row w' k L := (h.block k hk).trans hr

/-- 'copy' as one step of a region that draws its order: only the row's block turns. -/
theorem step_copy_only {P : Program} {ops : Array Oper} {o : Oper} {a : Act} {w : World} {K : Act → World → Prop} {Q : Exit → Act → World → Prop} {E : Prop} (hgd : o.guard = none) (d s : Operand) (dT sT : TypeId)
    (ho : o.op = .call { callee := .builtin .copy, args := #[d, s], argTypes := #[dT, sT] }) (elem : TypeId) (hu : P.underlying dT = some (.slice elem)) (hsz : (P.info? elem).map (·.size) = some 1)
    (dp sp : Option Addr) (dLen dCap sLen sCap : Nat) (hd : a.eval d = .slice dp dLen dCap) (hs : a.eval s = .slice sp sLen sCap)
    (g off : Nat) (cur : List Value) (t : TypeId) (hg : w.heap[g]? = some (.cells cur.toArray t (0, 0))) (cs : List Value) (hn : cs.length = Nat.min sLen dLen)
    (hpos : 0 < cs.length → dp = some ⟨g, off, none⟩ ∧ ∃ ad, sp = some ad ∧ ∀ j v, cs[j]? = some v → w.cell? (ad.add j) = some v)
    (hfit : off + cs.length ≤ cur.length) (h1 : ∀ v ∈ cs, v.oneCell' = true)
    (h : ∀ w', Hid (w'.heap[g]? = some (.cells (splice cur off cs).toArray t (0, 0))) → Hid (Only g w w') → K (a.put o.dst (goInt cs.length)) w') :
    if Region.wanted o (yielded ops a.tmps) = true then Oper.wp P o a w K Q else E := by
  have hw : Region.wanted o (yielded ops a.tmps) = true := by simp [Region.wanted, hgd]
  rw [if_pos hw]
  by_cases h0 : cs.length = 0
  · obtain rfl : cs = [] := List.eq_nil_of_length_eq_zero h0
    have hrun := run_copy_none (P := P) w dT sT o.type elem dp sp dLen dCap sLen sCap hu hsz (by simpa using hn.symm)
    unfold Oper.wp
    simp [execOp, ho, resolve, invoke, builtin, hd, hs, hrun, Result.andThen]
    exact h w (show _ = _ by simpa [splice] using hg) (Only.refl _ _)
  · obtain ⟨rfl, ad, rfl, hsrc⟩ := hpos (by omega)
    have hrun := run_copy_row (P := P) w dT sT o.type elem g off dLen dCap ad sLen sCap cur.toArray t cs hu hsz hg hn hsrc (by simpa using hfit) h1
    unfold Oper.wp
    simp [execOp, ho, resolve, invoke, builtin, hd, hs, hrun, Result.andThen]
    exact h _ (show _ = _ by simpa [splice] using setRow_heap w g _ _ t _ hg) ((Only.refl _ _).setRow _)

/-- The binary search, its answer as a function. -/
theorem bs_fn (ao : Option Addr) (n cap : Nat) (f : Nat → ByteArray) (t : ByteArray) (w : World) (hn : n ≤ 1048576) (hs : Sl w ao n f) (hasc : AscF n f) :
    Calls Trym.prog 20 #[.slice ao n cap, .string t] w fun e w' => e = .returned (.tuple #[.int .i64 (bsI f t n), .bool (bsH f t n)]) ∧ w' = w := by
  refine (bs_any ao n cap f t w hn hs hasc).mono fun e w' h => ?_
  obtain ⟨i, held, rfl, hi, h1, h2, h3, h4, rfl⟩ := h
  have e1 := bsI_of f t i n hi h1 h2
  rw [bsH_of e1 h3 h4, e1]
  exact ⟨rfl, rfl⟩
/-- What is known of that answer. -/
theorem bsI_facts (f : Nat → ByteArray) (t : ByteArray) : ∀ n, AscF n f → bsI f t n ≤ n ∧ (∀ k, k < bsI f t n → less (f k) t = true) ∧ (∀ k, bsI f t n ≤ k → k < n → less (f k) t = false)
  | 0, _ => ⟨Nat.le_refl _, fun k h => absurd h (by simp [bsI]), fun k _ h => absurd h (by omega)⟩
  | n + 1, h => by
    obtain ⟨a, b, c⟩ := bsI_facts f t n (h.mono (Nat.le_succ n))
    unfold bsI
    by_cases hl : less (f n) t = true
    · rw [if_pos hl]
      refine ⟨Nat.le_refl _, fun k hk => ?_, fun k h1 h2 => by omega⟩
      by_cases e : k = n
      · subst e; exact hl
      · exact less_trans (h k n (by omega) (by omega)) hl
    · rw [if_neg hl]
      refine ⟨by omega, b, fun k h1 h2 => ?_⟩
      by_cases e : k = n
      · subst e; simpa using hl
      · exact c k h1 (by omega)
theorem bsH_true {f : Nat → ByteArray} {t : ByteArray} {n : Nat} (h : bsH f t n = true) : bsI f t n < n ∧ f (bsI f t n) = t := by
  simp only [bsH, Bool.and_eq_true, beq_iff_eq] at h
  exact ⟨by simpa using h.1, toList_inj h.2⟩
theorem bsH_false {f : Nat → ByteArray} {t : ByteArray} {n : Nat} (h : bsH f t n = false) (hi : bsI f t n < n) : f (bsI f t n) ≠ t := by
  intro e
  have hb : Nat.blt (bsI f t n) n = true := by simpa using hi
  simp [bsH, hb, e] at h

theorem ascF_take {N : List ByteArray} {n p : Nat} (h : Asc (N.take n)) (hp : p ≤ n) (hN : p ≤ N.length) : AscF p (fun k => N.getD k ByteArray.empty) := by
  intro k l hkl hl
  have := List.pairwise_iff_getElem.1 h k l (by simp; omega) (by simp; omega) hkl
  simp only [List.getElem_take] at this
  simp only [List.getD_eq_getElem?_getD, List.getElem?_eq_getElem (show k < N.length by omega), List.getElem?_eq_getElem (show l < N.length by omega), Option.getD_some]
  exact this
theorem getD_take {N M : List ByteArray} {p k : Nat} (h : M.take p = N.take p) (hk : k < p) : M.getD k ByteArray.empty = N.getD k ByteArray.empty := by
  have := congrArg (fun l => l[k]?) h
  simp only [List.getElem?_take, if_pos hk] at this
  simp only [List.getD_eq_getElem?_getD, this]
theorem asc_take {N : List ByteArray} {n p : Nat} (h : Asc (N.take n)) (hp : p ≤ n) : Asc (N.take p) := by
  rw [split_take hp] at h
  exact asc_left h

theorem wrap_i64 (x : Int) (h1 : -9223372036854775808 ≤ x) (h2 : x ≤ 9223372036854775807) : IntKind.i64.wrap x = x := IntWalk.i64_in x ⟨h1, h2⟩

theorem splice_map (M X : List ByteArray) (off : Nat) : splice (M.map Value.string) off (X.map Value.string) = (spl M off X).map Value.string := by
  simp [splice, spl, List.map_take, List.map_drop]

/-- The cells cs lie in block g from place i on, in every world with wr's memory. -/
def SrcAt (wr : World) (g i : Nat) (cs : List Value) : Prop := ∀ (W : World) (j : Nat) (v : Value), cs[j]? = some v → W.heap = wr.heap → W.cell? (Addr.add ⟨g, i, none⟩ j) = some v

/-- What merge leaves: block g holds the union; nothing else has turned. -/
def Mg (w : World) (g : Nat) (L : List ByteArray) (e : Ending) (w' : World) : Prop := e = .returned (.tuple #[]) ∧ Row w' g L ∧ Only g w w'

set_option maxHeartbeats 1000000 in
set_option maxRecDepth 100000 in
theorem merge_any (g n c m cm : Nat) (N : List ByteArray) (mo : Option Addr) (G : Nat → ByteArray) (L : List ByteArray) (w : World) (hc : N.length = c) (hcb : c ≤ 1048576) (hn : n ≤ c) (hm : m ≤ 65536)
    (hrow : Row w g N) (hmo : Sl w mo m G) (hne : ∀ a, mo = some a → 0 < m → a.block ≠ g) (hA : Asc (N.take n)) (hG : AscF m G) (hL : L = U (N.take n) (lst m G)) (hlen : L.length = c) :
    Calls Trym.prog 17 #[.slice (some ⟨g, 0, none⟩) c c, .int .i64 n, .slice mo m cm] w (Mg w g L) := by
  have HC : Hid (N.length = c) := hc
  have HA : Hid (Asc (N.take n)) := hA
  have HG : Hid (AscF m G) := hG
  have h0 : Hid (MInv N G L n c m N) := ⟨by omega, by omega, by omega, rfl, rfl, by rw [← hL]; exact List.take_of_length_le (by omega), by rw [List.drop_of_length_le (by omega), List.drop_of_length_le (by omega)]⟩
  have HR : Hid (Row w g N) := hrow
  clear hc hA hG hL hlen hrow
  go_enter Trym.func17, Trym.ntmps17
  go_wp2
  go_loopw [1, 6, 7] (fun sn se sj wr => ∃ (p e j : Nat) (M : List ByteArray), sn = .int .i64 p ∧ se = .int .i64 e ∧ sj = .int .i64 ((j : Int) - 1) ∧ p ≤ n ∧ j ≤ m ∧ Hid (MInv N G L p e j M) ∧ Hid (Row wr g M) ∧ Hid (Only g w wr)) (fun _ _ sj _ => (intOf sj + 1).toNat)
  case atStart => exact ⟨n, c, m, N, rfl, rfl, rfl, Nat.le_refl _, Nat.le_refl _, h0, HR, Only.refl _ _⟩
  case round =>
    obtain ⟨p, e, j, M, rfl, rfl, rfl, hp, hj, HM, HRow, HO⟩ := hrel
    clear h0 HR
    cases j with
    | zero =>
      go_wp2
      go_end0
      exact ⟨rfl, by rw [← HM.out.done]; exact HRow.out, HO.out⟩
    | succ j =>
      rw [show (((j + 1 : Nat) : Int) - 1) = (j : Int) from by omega]
      obtain ⟨b2, o2, hmo', hcm⟩ := hmo (by omega)
      have hnb : b2 ≠ g := hne _ hmo' (by omega)
      have c2 : wr.cell? ⟨b2, o2 + j, none⟩ = some (.string (G j)) := (HO.out.cell (by exact hnb)).trans (hcm j (by omega))
      have hpe : p ≤ e := HM.out.pe
      have hec : e ≤ c := by have := HM.out.he; have := HC.out; omega
      have hasc : AscF p (fun k => N.getD k ByteArray.empty) := ascF_take HA.out hp HM.out.hp
      obtain ⟨i, hi⟩ : ∃ i, i = bsI (fun k => N.getD k ByteArray.empty) (G j) p := ⟨_, rfl⟩
      obtain ⟨held, hheld⟩ : ∃ b, b = bsH (fun k => N.getD k ByteArray.empty) (G j) p := ⟨_, rfl⟩
      obtain ⟨hip, hlo, hhi⟩ := bsI_facts _ (G j) p hasc
      rw [← hi] at hip hlo hhi
      have hcall : ∀ q, Calls Trym.prog 20 #[.slice (some ⟨g, 0, none⟩) p c, .string (G j)] (wr.drewN q) fun e w' => e = .returned (.tuple #[.int .i64 i, .bool held]) ∧ w' = wr.drewN q := by
        intro q
        rw [hi, hheld]
        refine bs_fn _ _ _ _ _ _ (by omega) ?_ hasc
        exact ((HRow.out.drewN q).sl (by have := HM.out.hp; have := HM.out.lenM; omega)).congr fun k hk => getD_take HM.out.front hk
      have HLo : Hid (∀ k, k < i → less (N.getD k ByteArray.empty) (G j) = true) := hlo
      have HHi : Hid (∀ k, i ≤ k → k < p → less (N.getD k ByteArray.empty) (G j) = false) := hhi
      clear hlo hhi hasc
      rw [hmo']
      clear hmo hmo' hcm hne
      have HI : Hid (i = bsI (fun k => N.getD k ByteArray.empty) (G j) p) := hi
      have HH : Hid (held = bsH (fun k => N.getD k ByteArray.empty) (G j) p) := hheld
      clear hi hheld
      have hc0 : 0 < c := by
        have h1 := HM.out.mid
        have h2 : G j ∈ L.take e := by rw [h1, mem_U]; exact .inr (mem_lst.2 ⟨j, by omega, rfl⟩)
        have h3 := List.length_pos_of_mem h2
        rw [List.length_take, HM.out.lenL, HC.out] at h3
        omega
      go_wp2
      go_big_quiet ((go_at_call 20; exact Calls.quiet_of_same (hcall _)))
      clear hcall
      by_cases hlt : i < p
      · have hiI : (i : Int) < (p : Int) := by omega
        obtain ⟨d, hd⟩ : ∃ d, d = p - i := ⟨_, rfl⟩
        obtain ⟨lo, hlo⟩ : ∃ lo, lo = e - d := ⟨_, rfl⟩
        have hw1 : IntKind.i64.wrap ((p : Int) - (i : Int)) = (d : Int) := by rw [wrap_i64 _ (by omega) (by omega)]; omega
        have hw2 : IntKind.i64.wrap ((e : Int) - (d : Int)) = (lo : Int) := by rw [wrap_i64 _ (by omega) (by omega)]; omega
        have hl1 : (lo : Int) ≤ (e : Int) := by omega
        have hl2 : c ≠ lo := by omega
        have hl3 : c ≠ i := by omega
        have hl4 : (i : Int) ≤ (p : Int) := by omega
        have hl5 : p ≤ c := by omega
        obtain ⟨cur, hcur⟩ : ∃ cur, cur = M.map Value.string := ⟨_, rfl⟩
        obtain ⟨cs, hcs⟩ : ∃ cs, cs = ((M.take p).drop i).map Value.string := ⟨_, rfl⟩
        have hlM : M.length = c := by rw [HM.out.lenM]; exact HC.out
        have hcsl : Hid (cs.length = d) := by subst hcs; simp [Hid]; omega
        have hcurl : Hid (cur.length = c) := by subst hcur; simpa [Hid] using hlM
        have hwr : Hid (∀ W : World, W.heap = wr.heap → W.heap[g]? = some (.cells cur.toArray 9 (0, 0))) := fun W hW => by subst hcur; rw [hW]; exact HRow.out
        have hsrc : Hid (∀ j v, cs[j]? = some v → wr.cell? (Addr.add ⟨g, i, none⟩ j) = some v) := by
          intro k v hk
          rw [hcs, List.getElem?_map, List.getElem?_drop] at hk
          obtain ⟨x, hx, rfl⟩ := Option.map_eq_some_iff.1 hk
          have hkl : i + k < p ∧ i + k < M.length := by
            have := (List.getElem?_eq_some_iff.1 hx).1
            rw [List.length_take] at this
            omega
          rw [List.getElem?_take, if_pos hkl.1] at hx
          have h := HRow.out.cell hkl.2
          rw [List.getD_eq_getElem?_getD, hx] at h
          rw [Go.WideShapes.add_plain]; exact h
        have h1c : Hid (∀ v ∈ cs, v.oneCell' = true) := by
          subst hcs
          intro v hv
          obtain ⟨x, _, rfl⟩ := List.mem_map.1 hv
          rfl
        have hsz : (Trym.prog.info? 9).map (·.size) = some 1 := by kernel_rfl
        have hmin : Hid (cs.length = Nat.min (p - i) (e - lo)) := by
          have h1 : e - lo = p - i := by omega
          show cs.length = _
          rw [hcsl.out, h1]
          simp
          omega
        have hfit : Hid (lo + cs.length ≤ cur.length) := by
          show lo + cs.length ≤ cur.length
          rw [hcsl.out, hcurl.out]; omega
        have hpos : SrcAt wr g i cs := fun W j v h hW => by rw [← hsrc.out j v h]; unfold World.cell?; rw [hW]
        clear hlM
        have HCu : Hid (cur = M.map Value.string) := hcur
        have HCs : Hid (cs = ((M.take p).drop i).map Value.string) := hcs
        have HD : Hid (d = p - i) := hd
        have HLo2 : Hid (lo = e - d) := hlo
        clear hcur hcs hd hlo
        go_wp2
        go_region_law (refine step_copy_only rfl (.tmp 37) (.tmp 41) 24 24 rfl 9 Trym.underlying24 hsz (some ⟨g, lo, none⟩) (some ⟨g, i, none⟩) (e - lo) (c - lo) (p - i) (c - i) (by simp [Act.eval, Act.put]) (by simp [Act.eval, Act.put]) g lo cur 9 (hwr.out _ rfl) cs hmin.out (fun _ => ⟨rfl, _, rfl, fun j v h => hpos _ j v h rfl⟩) hfit.out h1c.out ?_; intro w3 HR3 HO3)
        have ed : e - d = e - (p - i) := by rw [HD.out]
        have elo : lo = e - (p - i) := by rw [HLo2.out, ed]
        obtain ⟨M1, hM1⟩ : ∃ M1, M1 = spl M (e - (p - i)) ((M.take p).drop i) := ⟨_, rfl⟩
        have HR1 : Hid (Row w3 g M1) := by
          have h := HR3.out
          rw [HCu.out, HCs.out, splice_map, elo, ← hM1] at h
          exact h
        have HO1 : Hid (Only g w w3) := (HO.out.drewN (nq + 1)).trans HO3.out
        have c3 : w3.cell? ⟨b2, o2 + j, none⟩ = some (.string (G j)) := (HO3.out.cell (by exact hnb)).trans c2
        have hA' := asc_take HA.out hp
        have hG' := HG.out.mono hj
        clear hwr hpos hsrc h1c hmin hfit hcsl hcurl HR3 HO3 HCu HCs HC HRow HO hw1 hw2 hl1 hl2 hl3 hl4 hl5 HD HLo2 hsz c2 ed elo
        cases held with
        | true =>
          obtain ⟨_, hit⟩ := bsH_true HH.out.symm
          rw [← HI.out] at hit
          have HN := (HM.out.held hA' hG' hlt hit).2
          rw [← hM1] at HN
          have HN' : Hid (MInv N G L i (e - (p - i)) j M1) := HN
          clear HN hit hA' hG' HM HH HI HLo HHi hM1
          go_wp2
          go_roundw
          case rel => exact ⟨i, e - (p - i), j, M1, rfl, by go_num, rfl, by omega, by omega, HN', HR1, HO1⟩
          case measure => simp [intOf]
        | false =>
          have hne' := bsH_false HH.out.symm
          rw [← HI.out] at hne'
          obtain ⟨hge, HN⟩ := HM.out.new hA' hG' (Nat.le_of_lt hlt) HLo.out HHi.out hne'
          rw [← hM1] at HN
          have hlen1 : e - (p - i) - 1 < M1.length := by
            have h1 := HN.lenM
            have h2 := HM.out.he
            rw [List.length_set] at h1
            omega
          have HN' : Hid (MInv N G L i (e - (p - i) - 1) j (M1.set (e - (p - i) - 1) (G j))) := HN
          obtain ⟨v4, c4⟩ : ∃ v4, w3.cell? ⟨g, e - (p - i) - 1, none⟩ = some v4 := ⟨_, HR1.out.cell hlen1⟩
          have f4 := HR1.out.frozen (e - (p - i) - 1)
          clear HN hne' hA' hG' HM HH HI HLo HHi hM1 hlen1
          go_wp2
          go_roundw
          case rel => exact ⟨i, e - (p - i) - 1, j, M1.set (e - (p - i) - 1) (G j), rfl, by go_num, rfl, by omega, by omega, HN', HR1.out.set _ _, HO1.out.setCell _ _⟩
          case measure => simp [intOf]
      · obtain rfl : i = p := by omega
        have hf : held = false := by
          cases h : held with
          | false => rfl
          | true => have := (bsH_true (HH.out.symm.trans h)).1; rw [← HI.out] at this; omega
        rw [hf]
        have hA' := asc_take HA.out hp
        have hG' := HG.out.mono hj
        obtain ⟨hge, HN⟩ := HM.out.new hA' hG' (Nat.le_refl _) HLo.out HHi.out (fun h => absurd h hlt)
        have eM : spl M (e - (i - i)) ((M.take i).drop i) = M := by
          rw [List.drop_of_length_le (by simp; omega)]
          simp [spl]
        rw [eM, Nat.sub_self, Nat.sub_zero] at HN
        rw [Nat.sub_self, Nat.sub_zero] at hge
        have hlen1 : e - 1 < M.length := by
          have h1 := HM.out.lenM
          have h2 := HM.out.he
          omega
        have HN' : Hid (MInv N G L i (e - 1) j (M.set (e - 1) (G j))) := HN
        have hl3 : c ≠ i := by omega
        have hl5 : i ≤ c := by omega
        have hw0 : IntKind.i64.wrap 0 = 0 := wrap_i64 _ (by omega) (by omega)
        have hw2 : IntKind.i64.wrap (e : Int) = (e : Int) := wrap_i64 _ (by omega) (by omega)
        obtain ⟨dp, hdp⟩ : ∃ dp, (if c = e then some (Addr.mk g 0 none) else some (Addr.mk g e none)) = dp := ⟨_, rfl⟩
        have hwr : Hid (∀ W : World, W.heap = wr.heap → W.heap[g]? = some (.cells (M.map Value.string).toArray 9 (0, 0))) := fun W hW => by rw [hW]; exact HRow.out
        have hsz : (Trym.prog.info? 9).map (·.size) = some 1 := by kernel_rfl
        have hfit : e + ([] : List Value).length ≤ (M.map Value.string).length := by simp; have := HM.out.lenM; have := HM.out.he; omega
        clear HN hA' hG' HH HI HLo HHi hlen1 eM
        go_wp2
        go_region_law (refine step_copy_only rfl (.tmp 37) (.tmp 41) 24 24 rfl 9 Trym.underlying24 hsz dp (some ⟨g, i, none⟩) 0 (c - e) 0 (c - i) (by simp [Act.eval, Act.put]) (by simp [Act.eval, Act.put]) g e (M.map Value.string) 9 (hwr.out _ rfl) [] rfl (fun h => absurd h (Nat.lt_irrefl _)) hfit (fun v h => absurd h List.not_mem_nil) ?_; intro w3 HR3 HO3)
        have HR1 : Hid (Row w3 g M) := by
          have h := HR3.out
          have e1 : splice (M.map Value.string) e [] = M.map Value.string := by simp [splice]
          rw [e1] at h
          exact h
        have HO1 : Hid (Only g w w3) := (HO.out.drewN (nq + 1)).trans HO3.out
        have c3 : w3.cell? ⟨b2, o2 + j, none⟩ = some (.string (G j)) := (HO3.out.cell (by exact hnb)).trans c2
        obtain ⟨v4, c4⟩ : ∃ v4, w3.cell? ⟨g, e - 1, none⟩ = some v4 := ⟨_, HR1.out.cell (by have h1 := HM.out.lenM; have h2 := HM.out.he; omega)⟩
        have f4 := HR1.out.frozen (e - 1)
        clear hwr HR3 HO3 HC HRow HO hw0 hw2 hl3 hl5 hdp hfit hsz c2 HM
        go_wp2
        go_roundw
        case rel => exact ⟨i, e - 1, j, M.set (e - 1) (G j), rfl, by go_num, rfl, by omega, by omega, HN', HR1.out.set _ _, HO1.out.setCell _ _⟩
        case measure => simp [intOf]

/-- Nothing to merge in: whatever names is, nothing turns. -/
theorem merge_none (v : Value) (a : Option Addr) (c k : Nat) (hv : v = .slice a c k) (_hc : c ≤ 1048576) (n : Int) (mo : Option Addr) (cm : Nat) (w : World) :
    Calls Trym.prog 17 #[v, .int .i64 n, .slice mo 0 cm] w fun e w' => e = .returned (.tuple #[]) ∧ w' = w := by
  subst hv
  go_enter Trym.func17, Trym.ntmps17
  go_wp2
  refine wp_loop_rounds 1 ?_
  rw [rounds_succ]
  go_wp2
  go_end0
  exact ⟨rfl, rfl⟩

theorem zzmerge_any (g n c m cm : Nat) (N : List ByteArray) (mo : Option Addr) (G : Nat → ByteArray) (L : List ByteArray) (w : World) (hc : N.length = c) (hcb : c ≤ 1048576) (hn : n ≤ c) (hm : m ≤ 65536)
    (hrow : Row w g N) (hmo : Sl w mo m G) (hne : ∀ a, mo = some a → 0 < m → a.block ≠ g) (hA : Asc (N.take n)) (hG : AscF m G) (hL : L = U (N.take n) (lst m G)) (hlen : L.length = c) :
    Calls Trym.prog 13 #[.slice (some ⟨g, 0, none⟩) c c, .int .i64 n, .slice mo m cm] w (Mg w g L) := by
  have H := merge_any g n c m cm N mo G L w hc hcb hn hm hrow hmo hne hA hG hL hlen
  clear hc hcb hn hm hrow hmo hne hA hG hL hlen
  go_enter Trym.func13, Trym.ntmps13
  go_wp2_with (go_at_call 17; refine H.mono ?_; rintro e w' ⟨rfl, hr, ho⟩)
  go_end0
  exact ⟨rfl, hr, ho⟩
theorem zzmerge_none (v : Value) (a : Option Addr) (c k : Nat) (hv : v = .slice a c k) (hc : c ≤ 1048576) (n : Int) (mo : Option Addr) (cm : Nat) (w : World) :
    Calls Trym.prog 13 #[v, .int .i64 n, .slice mo 0 cm] w fun e w' => e = .returned (.tuple #[]) ∧ w' = w := by
  have H := merge_none v a c k hv hc n mo cm w
  clear hv
  go_enter Trym.func13, Trym.ntmps13
  go_wp2_with (go_at_call 17; refine H.mono ?_; rintro e w' ⟨rfl, rfl⟩)
  go_end0
  exact ⟨rfl, rfl⟩
end Go.Proofs.Qxb6603292aMods
