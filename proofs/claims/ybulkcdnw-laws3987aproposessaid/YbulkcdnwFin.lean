/-
  The law Proposes: the call of propose, and what is looked at behind it.
-/
import Derived.Test.YbulkcdnwNode
import Derived.Deep.MidRow
import Derived.LaidEqlPtr
namespace Go.Proofs.Ybulkcdnw
open Go.RowKit
set_option maxRecDepth 100000
set_option linter.unusedSimpArgs false
set_option linter.unusedVariables false

/-- A world behind V that keeps V's blocks. -/
structure KW (V : World) where
  W : World
  k : Kept (fun _ => True) V W
def kw (V : World) (x : KW V) : World := x.W
theorem KW.some (V : World) : Nonempty (KW V) := ⟨⟨V, Kept.refl _ _⟩⟩
theorem kw_kept (V : World) (x : KW V) : Kept (fun _ => True) V (kw V x) := x.k
theorem kw_cell (V : World) (x : KW V) (b o : Nat) (hb : b < V.heap.size) : (kw V x).cell? ⟨b, o, none⟩ = V.cell? ⟨b, o, none⟩ := World.cell?_of_block (w := V) (x.k.block b hb trivial)
theorem kw_in {V w' : World} (k : Kept (fun _ => True) V w') : ∃ x, w' = kw V x := ⟨⟨w', k⟩, rfl⟩
theorem wp_region_kw {P : Program} {id : Nat} {Q : Exit → Act → World → Prop} {a : Act} {w : World} {l : List Oper} (hm : P.follows .mixedOrders = true) (hB : Region.lexB .any l.toArray = true)
    (h : wpQuiet P l.toArray (fun w' => ∃ x, w' = kw w x) (fun a' => ∀ w', (∃ x, w' = kw w x) → Q .normal a' w') l a) : (Code.region id l.toArray true).wp P Q a w :=
  wp_region_quiet (C := fun w' => ∃ x, w' = kw w x) hm hB ⟨⟨_, (Kept.refl _ _).drew⟩, rfl⟩ (by simpa using h)

theorem Same.call {V : World} {va vr vb vq : Value} (h : Same V va vr vb vq) : Calls Yba.prog 9 #[.agg #[va, vr], .agg #[vb, vq]] V fun e w' => e = .returned (.bool true) ∧ Kept (fun _ => True) V w' := by
  obtain ⟨ms, l, h1, h2, h3, h4, h5, h6⟩ := h
  exact eq_any ms l va vb vr vq V h3 h4 h5 h6 (by omega) (by omega)

theorem fin_propose {w W16 : World} {fb : Bool} {MB SB PB WB XB NB OB M1 M2 : Nat} {am : Option Addr} {zs : List ZM} {me : Mem} {P : List Prp} {apx : Option Addr} {nx view aft : Int} {grp : ByteArray} {oa : Option Addr} {na ca : Nat} {ob : Option Addr} {nr cr : Nat} {ks lvs : List (ByteArray × Int)} {lv sl : Value} (hlz : zs.length ≤ 300) (hlz0 : 0 < zs.length) (hlP : P.length ≤ 300) (hlv : lvs.length ≤ 300)
    (hnx : IntKind.u64.wrap (view + 1) = nx) (hfb : (!(apx.isNone && (bst P nx P.length).isNone)) = fb) (hks : ksF fb zs = ks ∧ pickL zlea zs zs.length = lvs) (hd : -9223372036854775808 ≤ aft ∧ aft ≤ 9223372036854775807)
    (h : FP w W16 MB SB PB WB XB NB OB M1 M2 am zs me P apx nx view aft grp oa na ca ob nr cr ks lvs lv sl) :
    Calls Yba.prog 8 #[.pointer (some ⟨NB, 0, none⟩)] W16 fun e V => e = .returned (.tuple #[]) ∧ ∃ oa' na' ca' ob' nr' cr' AB RB UB sv N E, FS w V fb MB SB PB WB XB NB AB RB UB OB am zs me P apx nx aft grp oa na ca ob nr cr ks lvs lv sl (.slice oa' na' ca') (.slice ob' nr' cr') sv N E := by
  subst hnx
  obtain ⟨M, hM, hMs⟩ := h.s6.s4.s3.s2.s1.mem
  obtain ⟨A, hA, hAs⟩ := h.s6.s4.s3.bP
  have hpre : Pre W16 NB MB XB OB PB (nodeA me aft view MB zs.length grp M1 M2 XB lv OB) M (oldA view apx PB P.length) A (mkMs zs) ks lvs P apx lv :=
    ⟨⟨h.bN, hM, hMs, h.s6.mp⟩, h.bO, rfl, rfl, hA, by rw [hAs]; simp, h.s6.ol, fun a ha => by
      obtain ⟨ab, x1, x2, x3, x4, x5, x6, e1, e2, _⟩ := h.s6.s4.ah a ha
      exact ⟨ab, x1, x2, x3, x4, x5, x6, e1, e2⟩⟩
  refine (propose_any NB NB MB XB OB PB (nodeA me aft view MB zs.length grp M1 M2 XB lv OB) M (oldA view apx PB P.length) A (mkMs zs) ks lvs P apx lv me.nm me.ad ⟨#[109, 101, 109, 98, 101, 114]⟩ grp ⟨#[]⟩ me.inc 0 view aft false W16 hpre (Nat.le_refl _) (by rw [mkMs_len]; omega) (by omega) (by omega) rfl rfl rfl rfl rfl rfl rfl rfl rfl rfl rfl rfl (by rw [mkMs_len]; rfl) rfl rfl rfl rfl rfl rfl hd.1 hd.2 (by decide +kernel) (mkMs_dis zs hlz) (fun h1 h2 => ?_)).mono ?_
  · rw [h1, h2] at hfb
    have : fb = false := by rw [← hfb]; rfl
    subst this
    rw [← hks.1, ← hks.2]
    exact rem_ne hlz0 hlz
  · rintro e V ⟨rfl, wx, N0, va, vr, AB, RB, hw, hk, hN0, ⟨oa', na', ca', ob', nr', cr', rfl, rfl⟩, hB⟩
    obtain ⟨sv, N, E, hf⟩ := fs_of hlz hfb h hw hk hN0 hB
    exact ⟨rfl, oa', na', ca', ob', nr', cr', AB, RB, wx.heap.size, sv, N, E, hf⟩

theorem eql45_other {w : World} {RB OB : Nat} {A B : Array Value} (hne : RB ≠ OB) (ha : Blk w RB 51 A) (hb : Blk w OB 51 B) : (binOp .eql 45 (.pointer (some ⟨RB, 0, none⟩)) (.pointer (some ⟨OB, 0, none⟩))).run Yba.prog w = .ok (.bool false) w := by
  have h : (Yba.prog.info? 51).map (·.size) = some 15 := by kernel_rfl
  cases hi : Yba.prog.info? 51 with
  | none => rw [hi] at h; simp at h
  | some j =>
    rw [hi] at h
    exact run_eql_ptr_other w Yba.underlying45 hi (by simp at h; omega) (by simp [hne]) ha hb
theorem neq_ptr_same {w : World} {tp te : TypeId} (hp : Yba.prog.underlying tp = some (.pointer te)) (h : (Yba.prog.info? te).isSome = true) (a : Addr) : (binOp .neq tp (.pointer (some a)) (.pointer (some a))).run Yba.prog w = .ok (.bool false) w := by
  cases hi : Yba.prog.info? te with
  | none => rw [hi] at h; simp at h
  | some j =>
    have h : ∀ d : Nat, (Op.equalIn (d + 1) tp (.pointer (some a)) (.pointer (some a))).run Yba.prog w = .ok true w := fun d => by
      simp [Op.equalIn, run_underlying hp, sizeOf, typeInfo, hi, run_sameAddr_same]
    simp only [binOp]
    simp [Op.equal, Op.maxDepth, h 9999]
theorem neq43 (w : World) (apx : Option Addr) : (binOp .neq 43 (.pointer apx) (.pointer apx)).run Yba.prog w = .ok (.bool false) w := by
  cases apx with
  | none => simp [go_sem, Yba.underlying43]
  | some a => exact neq_ptr_same Yba.underlying43 (by kernel_rfl) a
theorem neq64 (w : World) (a : Addr) : (binOp .neq 64 (.pointer (some a)) (.pointer (some a))).run Yba.prog w = .ok (.bool false) w := neq_ptr_same Yba.underlying64 (by kernel_rfl) a
theorem flat_at {α : Type} (f : α → List Value) (hf : ∀ m, (f m).length = 19) : ∀ (l : List α) (i j : Nat) (m : α), l[i]? = some m → j < 19 → (l.flatMap f)[i * 19 + j]? = (f m)[j]?
  | [], i, j, m, h, _ => by simp at h
  | x :: l, 0, j, m, h, hj => by
    simp at h
    subst h
    rw [List.flatMap_cons, List.getElem?_append_left (by rw [hf]; omega)]
    congr 1; omega
  | x :: l, i + 1, j, m, h, hj => by
    have ih := flat_at f hf l i j m (by simpa using h) hj
    rw [List.flatMap_cons, List.getElem?_append_right (by rw [hf]; omega), hf, ← ih]
    congr 1; omega
theorem tgts_at (nm : ByteArray) (inc : Int) (ks : List (ByteArray × Int)) (ms : List Mem) (k : Nat) (hk : k < ms.length) (ho : sel nm inc ks (ms.getD k mem0) = true) : (tgts nm inc ks ms)[(tgts nm inc ks (ms.take k)).length]? = some (ms.getD k mem0) := by
  have e : ms = ms.take k ++ (ms.getD k mem0 :: ms.drop (k + 1)) := by
    have h1 := List.take_append_drop k ms
    have h2 : ms.drop k = ms.getD k mem0 :: ms.drop (k + 1) := by rw [List.drop_eq_getElem_cons hk]; simp [List.getD, hk]
    rw [h2] at h1
    exact h1.symm
  generalize hm : ms.getD k mem0 = m at *
  generalize ms.take k = a at *
  generalize ms.drop (k + 1) = b at *
  subst e
  unfold tgts
  rw [List.filter_append, List.getElem?_append_right (Nat.le_refl _), Nat.sub_self, List.filter_cons, if_pos ho]
  rfl
theorem env3_length (nm : ByteArray) (inc : Int) (ad gr : ByteArray) (nx : Int) (UB : Nat) (e : Mem × Value × Value) : (env3 nm inc ad gr nx UB e).length = 19 := rfl

/-- The envelope to the k-th member lies where the law looks. -/
theorem FS.env {w V : World} {fb : Bool} {MB SB PB WB XB NB AB RB UB OB : Nat} {am : Option Addr} {zs : List ZM} {me : Mem} {P : List Prp} {apx : Option Addr} {nx aft : Int} {grp : ByteArray} {oa : Option Addr} {na ca : Nat} {ob : Option Addr} {nr cr : Nat} {ks lvs : List (ByteArray × Int)} {lv sl va vr sv : Value} {N : Array Value} {E : List (Mem × Value × Value)}
    (h : FS w V fb MB SB PB WB XB NB AB RB UB OB am zs me P apx nx aft grp oa na ca ob nr cr ks lvs lv sl va vr sv N E) {k : Nat} (hk : k < (mkMs zs).length) (ho : sel me.nm me.inc ks ((mkMs zs).getD k mem0) = true) :
    ∃ g cap so sc told, sv = .slice (some ⟨g, 0, none⟩) E.length cap ∧ (tgts me.nm me.inc ks ((mkMs zs).take k)).length < E.length ∧ told.oneCell' = true ∧ OwnI V (.slice so (susL ks (mkMs zs)).length sc) (susL ks (mkMs zs)) ∧ g < V.heap.size ∧
      V.rangeAt g ((tgts me.nm me.inc ks ((mkMs zs).take k)).length * 19) (env3 me.nm me.inc me.ad grp nx UB ((mkMs zs).getD k mem0, .slice so (susL ks (mkMs zs)).length sc, told)) ∧ hasK ((tgts me.nm me.inc ks (mkMs zs)).map idOf) (((mkMs zs).getD k mem0).nm, ((mkMs zs).getD k mem0).inc) = true := by
  have hat := tgts_at me.nm me.inc ks (mkMs zs) k hk ho
  obtain ⟨ms, hms⟩ : ∃ ms, mkMs zs = ms := ⟨_, rfl⟩
  have e1 := h.e1
  have oE := h.oE
  have sE := h.sE
  rw [hms] at hat hk ho e1 sE ⊢
  obtain ⟨c, hc⟩ : ∃ c, (tgts me.nm me.inc ks (ms.take k)).length = c := ⟨_, rfl⟩
  obtain ⟨m, hm⟩ : ∃ m, ms.getD k mem0 = m := ⟨_, rfl⟩
  rw [hc, hm] at hat
  rw [hc, hm]
  rw [← e1, List.getElem?_map] at hat
  obtain ⟨e, he, rfl⟩ : ∃ e, E[c]? = some e ∧ e.1 = m := by
    cases hE : E[c]? with
    | none => rw [hE] at hat; simp at hat
    | some e => rw [hE] at hat; exact ⟨e, rfl, by simpa using hat⟩
  have hcE : c < E.length := (List.getElem?_eq_some_iff.1 he).1
  obtain ⟨s1, s2⟩ := sE e (List.mem_of_getElem? he)
  obtain ⟨m, su, told⟩ := e
  obtain ⟨so, sc, rfl, _⟩ := own_shape s1
  rcases oE.2 with ⟨_, h0⟩ | ⟨g, cap, cur, rfl, _, hg, _, _, _, hx⟩
  · omega
  refine ⟨g, cap, so, sc, told, rfl, hcE, s2, s1, (Array.getElem?_eq_some_iff.1 hg).1, fun j v hv => ?_, ?_⟩
  · have hj : j < 19 := by
      obtain ⟨h, _⟩ := List.getElem?_eq_some_iff.1 hv
      rw [env3_length] at h
      exact h
    have hb : Blk V g 83 cur := hg
    rw [hb.cell, ← Array.getElem?_toList]
    have : c * 19 + j < E.length * 19 := by omega
    rw [← List.getElem?_take_of_lt this, hx, flat_at _ (env3_length _ _ _ _ _ _) E c j _ he hj]
    exact hv
  · rw [← e1]
    unfold hasK
    rw [List.any_eq_true]
    refine ⟨idOf m, List.mem_map.2 ⟨m, List.mem_map.2 ⟨_, List.mem_of_getElem? he, rfl⟩, rfl⟩, ?_⟩
    simp [sameId, idOf]

theorem Blk.setCells {b : Nat} {t : TypeId} : ∀ (cs : List Value) (o : Nat) {w : World} {N : Array Value}, Blk w b t N → o + cs.length ≤ N.size →
    ∃ N', Blk (w.setCells b o cs) b t N' ∧ N'.toList = N.toList.take o ++ cs ++ N.toList.drop (o + cs.length)
  | [], o, w, N, h, _ => ⟨N, h, by simp⟩
  | v :: cs, o, w, N, h, hs => by
    simp only [List.length_cons] at hs
    obtain ⟨N', h1, h2⟩ := Blk.setCells cs (o + 1) (h.set o v) (by simp; omega)
    refine ⟨N', h1, ?_⟩
    rw [h2, Array.toList_setIfInBounds]
    have hl : o < N.toList.length := by simp; omega
    have e1 : (N.toList.set o v).take (o + 1) = N.toList.take o ++ [v] := by
      rw [List.take_set, List.take_succ_eq_append_getElem hl, List.set_append_right _ _ (by simp; omega)]
      have e0 : o - (N.toList.take o).length = 0 := by rw [List.length_take]; omega
      rw [e0]; rfl
    have e2 : (N.toList.set o v).drop (o + 1 + cs.length) = N.toList.drop (o + 1 + cs.length) := by
      rw [List.drop_set, if_pos (by omega)]
    rw [e1, e2]
    simp only [List.append_assoc, List.cons_append, List.nil_append, List.length_cons]
    rw [show o + 1 + cs.length = o + (cs.length + 1) from by omega]

theorem Blk.there {w : World} {b : Nat} {t : TypeId} {N : Array Value} (h : Blk w b t N) (o n : Nat) (hs : o + n ≤ N.size) : w.there b o n := fun j hj =>
  ⟨by rw [h.cell]; simp; omega, h.frozen _⟩
theorem below_setCells {B : Nat} {a : World} {b : Nat} (hb : B ≤ b) : ∀ (cs : List Value) (o : Nat) {w : World}, Below B a w → Below B a (w.setCells b o cs)
  | [], _, _, h => h
  | v :: cs, o, _, h => below_setCells hb cs (o + 1) (h.setCell hb v)
theorem kept_cells {p : Nat → Prop} {a : World} {b : Nat} (hb : a.heap.size ≤ b) : ∀ (cs : List Value) (o : Nat) {w : World}, Kept p a w → Kept p a (w.setCells b o cs)
  | [], _, _, h => h
  | v :: cs, o, _, h => kept_cells hb cs (o + 1) (h.setNew hb v)
theorem cop_there (wr : World) : (wr.alloc (.cells zero83.cells 83)).there wr.heap.size 0 19 := (Blk.new wr 83 zero83.cells).there 0 19 (by decide +kernel)
theorem cop_stored (wr : World) (E : List Value) (hE : E.length = 19) :
    Kept (fun _ => True) wr ((wr.alloc (.cells zero83.cells 83)).setCells wr.heap.size 0 E) ∧ Blk ((wr.alloc (.cells zero83.cells 83)).setCells wr.heap.size 0 E) wr.heap.size 83 E.toArray := by
  have h := Blk.new wr 83 zero83.cells
  have hz : zero83.cells.size = 19 := by decide +kernel
  constructor
  · exact kept_cells (Nat.le_refl _) E 0 ((Kept.refl _ wr).alloc _)
  · obtain ⟨N', h1, h2⟩ := Blk.setCells E 0 h (by omega)
    have : N' = E.toArray := by
      apply Array.toList_inj.1
      rw [h2]
      simp [hE, hz]
    rw [← this]
    exact h1
theorem env3_one (nm : ByteArray) (inc : Int) (ad gr : ByteArray) (nx : Int) (UB : Nat) (m : Mem) (so : Option Addr) (sn sc : Nat) (told : Value) (h : told.oneCell' = true) : (env3 nm inc ad gr nx UB (m, .slice so sn sc, told)).toArray.all (·.oneCell') = true := by
  have e : (env3 nm inc ad gr nx UB (m, .slice so sn sc, told)).all (·.oneCell') = true := by
    show (told.oneCell' && true) = true
    rw [h]; rfl
  exact all_oneCell_toArray (fun v hv => List.all_eq_true.1 e v hv)
theorem ents_length : ∀ (l : List (ByteArray × Int)) (i : Nat), (ents l i).length = l.length
  | [], _ => rfl
  | p :: l, i => by simp [ents, ents_length l (i + 1)]
theorem len44 {w : World} {b : Nat} {ks : List (ByteArray × Int)} (h : Mp w b ks) (ty : TypeId) : (Builtin.len_ #[44] ty #[.map (some b)]).run Yba.prog w = .ok (goInt ks.length) w := by
  rw [run_len_map w 44 ty b _ _ (by simp [Program.mapKeyOf, Program.mapElemOf, Yba.underlying44]) h]
  simp [ents_length]
theorem range_kept {w w' : World} {b o : Nat} {cs : List Value} (hb : b < w.heap.size) (h : w.rangeAt b o cs) (k : Kept (fun _ => True) w w') : w'.rangeAt b o cs := fun j v hv => by
  rw [k.cellT hb]
  exact h j v hv
end Go.Proofs.Ybulkcdnw
