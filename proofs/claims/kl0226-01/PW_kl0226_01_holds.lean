import PyProof.Rows.All
import Wide.All
import OpenK.AllK
import Wide.FinOn
import Lean
import PySem.Challenge.RW_kl0226_01
open PySem PySem.W PyProof.Rows PySem.Calls PySem.Spec
set_option Elab.async false
set_option maxRecDepth 100000
set_option maxHeartbeats 4000000
set_option linter.unusedVariables false
set_option linter.unusedSimpArgs false
set_option linter.deprecated false
set_option compiler.extract_closed false
set_option rowWalk.seconds 0
namespace Mine
section

/-! A0 -/
set_option maxRecDepth 100000 in
set_option maxHeartbeats 8000000 in
open_top hd for PySem.Challenge.rw_kl0226_01

/-! E1 -/
/-- an item of a written list by its place -/
theorem room_c {d x k y R : Nat} (h : d + x < R := by with_reducible assumption) (hk : Nat.ble (k + y) x = true := by exact rfl) : d + k + y < R :=
  Nat.lt_of_le_of_lt (Nat.add_assoc d k y ▸ Nat.add_le_add_left (Nat.le_of_ble_eq_true hk) d) h
theorem room_0 {d c a x k y R : Nat} (h : d + (c * a + x) < R := by with_reducible assumption) (hk : Nat.ble (k + y) x = true := by exact rfl) : d + k + y < R :=
  Nat.lt_of_le_of_lt (Nat.add_assoc d k y ▸ Nat.add_le_add_left (Nat.le_trans (Nat.le_of_ble_eq_true hk) (Nat.le_add_left _ _)) d) h
theorem sub_up {a i : Nat} (h : i < a) : a - i = (a - (i + 1)) + 1 := (Nat.succ_pred_eq_of_pos (Nat.sub_pos_of_lt h)).symm
theorem sub_dn {len j : Nat} (h : j < len) : len - (j + 1) + 1 ≤ len - j := Nat.le_of_eq (sub_up h).symm
theorem sub_dn' {len j i : Nat} (h : j < len) : len - (j + 1 + i) + 1 ≤ len - j := Nat.le_trans (Nat.succ_le_succ (Nat.sub_le_sub_left (Nat.le_add_right _ _) _)) (sub_dn h)
theorem room_1 {d c a b x k y R : Nat} (h : d + (c * a + x) < R := by with_reducible assumption) (hb : b ≤ a := by first | exact Nat.le_refl _ | exact Nat.sub_le _ _ | exact Nat.sub_le_sub_left (Nat.le_add_right _ _) _) (hk : Nat.ble (k + y) x = true := by exact rfl) : d + k + (c * b + y) < R :=
  Nat.lt_of_le_of_lt (by rw [Nat.add_assoc, Nat.add_left_comm k]; exact Nat.add_le_add_left (Nat.add_le_add (Nat.mul_le_mul_left c hb) (Nat.le_of_ble_eq_true hk)) d) h
theorem room_2 {d c a b x k y R : Nat} (h : d + (c * a + x) < R := by with_reducible assumption) (hb : b + 1 ≤ a := by first | exact sub_dn (by with_reducible assumption) | exact sub_dn' (by with_reducible assumption)) (hk : Nat.ble (k + y) (c + x) = true := by exact rfl) : d + k + (c * b + y) < R :=
  Nat.lt_of_le_of_lt (by
    rw [Nat.add_assoc, Nat.add_left_comm k]
    exact Nat.add_le_add_left (Nat.le_trans (Nat.add_le_add_left (Nat.le_of_ble_eq_true hk) _) (by rw [← Nat.add_assoc, ← Nat.mul_succ]; exact Nat.add_le_add_right (Nat.mul_le_mul_left c hb) x)) d) h
theorem kid_gt (j i : Nat) : j < j + 1 + i := Nat.lt_of_lt_of_le (Nat.lt_succ_self j) (Nat.le_add_right _ _)
theorem kid_lt {len j i : Nat} (h : i < len - (j + 1)) : j + 1 + i < len := Nat.add_lt_of_lt_sub' h
theorem kid_ltI {len j i : Nat} (h : i < len - (j + 1)) : ((j + 1 + i : Nat) : Int) < (len : Int) := Int.ofNat_lt.mpr (kid_lt h)
theorem kid_int {n : Int} {j : Nat} (h : n = (j : Int)) (i : Nat) : n + 1 + (i : Int) = ((j + 1 + i : Nat) : Int) := by subst h; rfl
theorem kid_nat {n : Int} {j : Nat} (h : n = (j : Int)) (i : Nat) : (n + 1 + (i : Int)).toNat = j + 1 + i := by rw [kid_int h]; rfl
theorem kid_0 {n : Int} {j : Nat} (h : n = (j : Int)) (i : Nat) : 0 ≤ n + 1 + (i : Int) := by rw [kid_int h]; exact Int.natCast_nonneg _
theorem kid_1 {n : Int} {len j i : Nat} (h : n = (j : Int)) (hi : i < len - (j + 1)) : n + 1 + (i : Int) < (len : Int) := by rw [kid_int h]; exact kid_ltI hi
theorem ar_1 {len j i : Nat} (h : j < len) : j + 1 + (len - (j + 1)) - 1 - i = len - 1 - i := by rw [Nat.add_sub_cancel' h]
theorem ar_2 (len j : Nat) : len - (j + 1) = len - 1 - j := by rw [Nat.add_comm, Nat.sub_sub]
theorem ar_3 (o k i : Nat) : o + (k + 1) - 1 - i = o + 1 + k - 1 - i := by rw [Nat.add_right_comm o 1 k]; rfl
theorem ar_4 (o k : Nat) : o + (k + 1) - 1 - o = k := Nat.add_sub_cancel_left o k
theorem ar_5 {len i q : Nat} (hi : i < len) (h1 : len - (i + 1) ≤ q) (e : ¬ len - 1 - i = q) : len - i ≤ q := by
  rw [sub_up hi]
  exact Nat.lt_of_le_of_ne h1 fun z => e ((ar_2 len i).symm.trans z)
theorem ar_6 {len i : Nat} (hi : i < len) : len - (len - 1 - i + 1) = i := by
  rw [← ar_2, ← sub_up hi]
  exact Nat.sub_sub_self (Nat.le_of_lt hi)
theorem ar_7 {n i : Nat} (h : i < n) : n + 1 - (i + 1) < n + 1 - i := Nat.sub_succ_lt_self n.succ i (Nat.lt_succ_of_lt h)
theorem ar_8 {len i : Nat} (h : i < len) : len - 1 - i < len := Nat.lt_of_le_of_lt (Nat.sub_le _ _) (Nat.sub_one_lt (Nat.ne_of_gt (Nat.zero_lt_of_lt h)))
theorem le_line {a n : Nat} (h : a ≤ n) (hn : n ≤ 100) : a ≤ sizeLine := Nat.le_trans (Nat.le_trans h hn) (Nat.le_of_ble_eq_true (by decide))
theorem line_1 {a : Nat} (h : a ≤ 100) : a + 1 ≤ sizeLine := Nat.le_trans (Nat.succ_le_succ h) (Nat.le_of_ble_eq_true (by decide))
theorem lt_63 {x : Int} {len : Nat} (h : x < (len : Int)) (hl : len ≤ 100) : x < 2 ^ 63 := Int.lt_of_lt_of_le h (Int.le_trans (Int.ofNat_le.mpr hl) (by decide))
theorem kid_size (j len : Nat) : Builtin.Range.rangeSize ((j : Int) + 1) (len : Int) 1 = ((len - (j + 1) : Nat) : Int) := by rw [rangeSize_one]; split <;> omega
theorem kid_small {j len : Nat} (h : j < len) (hl : len ≤ 100) : Builtin.Range.small ((j : Int) + 1) (len : Int) 1 = true := small_one (by omega) (by omega) (by omega) (by omega)
theorem lt_u {a b : Nat} (h : a < b) : a < b + 1 := Nat.lt_succ_of_lt h
theorem ne_probe {a : Nat} (h : False) : a ≠ a := h.elim
theorem ne_g {a b : Nat} (h : b < a := by (repeat (first | with_reducible assumption | exact Nat.lt_succ_self _ | ((with_reducible show _ < (_ + _ : Nat)); refine lt_u ?_) | refine Nat.lt_trans ?_ (by with_reducible assumption))) <;> fail "n") : a ≠ b := Nat.ne_of_gt h
theorem lt_head {d p : Addr} {o : Obj} {l : List (Addr × Obj)} (h : ∀ q ∈ (p, o) :: l, q.1 < d) : @LT.lt Nat _ p d := h _ (.head _)
theorem mem_i {α : Type} {a : α} {l : List α} (i : Nat) (e : l[i]? = some a) : a ∈ l := List.mem_of_getElem? e

/-- the three classes that the law raises -/
def ExC (c : Value) : Prop := c = .type "SystemExit" ∨ c = .type "KeyError" ∨ c = .type "ValueError"
def IsTb (B h : Heap) (T : Addr) : Prop := ∃ o ts f, h.get? T = some o ∧ o.data = .fields ts ∧ 3 < ts.size ∧ ts[1]? = some (.ref f) ∧ B.get? T = none
def IsExc (B h : Heap) (e : Addr) (c x : Value) : Prop :=
  ∃ o vs t, h.get? e = some o ∧ o.cls = c ∧ ExC c ∧ o.data = .fields vs ∧ vs[1]? = some t ∧ (t = .none ∨ ∃ T, t = .ref T ∧ IsTb B h T) ∧ vs[2]? = some x ∧ B.get? e = none
def HasTb (h : Heap) (e : Addr) : Prop := ∃ o vs T, h.get? e = some o ∧ o.data = .fields vs ∧ vs[1]? = some (.ref T)
/-- no exception, no traceback: their second field is nothing or a reference -/
def Sta (o : Obj) : Prop := ∀ vs, o.data = .fields vs → ∀ v, vs[1]? = some v → v ≠ .none ∧ ∀ T, v ≠ .ref T
theorem Sta.not {o : Obj} {vs : Array Value} {v : Value} (hd : o.data = .fields vs) (h1 : vs[1]? = some v) (hv : v = .none ∨ ∃ T, v = .ref T) : ¬ Sta o := fun hs => by
  rcases hv with rfl | ⟨T, rfl⟩
  · exact (hs _ hd _ h1).1 rfl
  · exact (hs _ hd _ h1).2 T rfl

/-- the link to the exception that was handled at its raising -/
def HasCtx (h : Heap) (e : Addr) (x : Value) : Prop := ∃ o vs, h.get? e = some o ∧ ExC o.cls ∧ o.data = .fields vs ∧ vs[2]? = some x

/-- a step of an exception through a frame -/
structure Moves (B : Heap) (S : List Addr) (h h' : Heap) : Prop where
  base : B.StaysIn h → B.StaysIn h'
  obj : ∀ b o, h.get? b = some o → b ∉ S → Sta o → h'.get? b = some o
  slo : ∀ b o, h.get? b = some o → (∀ vs, o.data ≠ .fields vs) → ∃ sl, h'.get? b = some { o with slots := sl }
  ctx : ∀ e x, HasCtx h e x → HasCtx h' e x

theorem Moves.of_keep {B : Heap} {S : List Addr} {h h' : Heap} (k : ∀ b o, h.get? b = some o → h'.get? b = some o) : Moves B S h h' where
  base := fun hb b o e => k b o (hb b o e)
  obj := fun b o e _ _ => k b o e
  slo := fun b o e _ => ⟨o.slots, k b o e⟩
  ctx := fun e x ⟨o, vs, q, r⟩ => ⟨o, vs, k _ _ q, r⟩
theorem Moves.refl {B : Heap} {S : List Addr} (h : Heap) : Moves B S h h := .of_keep fun _ _ e => e
theorem Moves.trans {B : Heap} {S : List Addr} {h h₁ h₂ : Heap} (x : Moves B S h h₁) (y : Moves B S h₁ h₂) : Moves B S h h₂ where
  base := fun hb => y.base (x.base hb)
  obj := fun b o e n hs => y.obj b o (x.obj b o e n hs) n hs
  slo := fun b o e hn => by
    obtain ⟨s1, e1⟩ := x.slo b o e hn
    obtain ⟨s2, e2⟩ := y.slo b _ e1 hn
    exact ⟨s2, e2⟩
  ctx := fun e v q => y.ctx e v (x.ctx e v q)

theorem IsTb.of_keep {B h h' : Heap} {T : Addr} (k : ∀ b o, h.get? b = some o → h'.get? b = some o) : IsTb B h T → IsTb B h' T := fun ⟨o, ts, f, e1, r⟩ => ⟨o, ts, f, k _ _ e1, r⟩
theorem IsExc.of_keep {B h h' : Heap} {e : Addr} {c x : Value} (k : ∀ b o, h.get? b = some o → h'.get? b = some o) : IsExc B h e c x → IsExc B h' e c x :=
  fun ⟨o, vs, t, e1, e2, e3, e4, e5, e6, r⟩ => ⟨o, vs, t, k _ _ e1, e2, e3, e4, e5, e6.imp id (fun ⟨T, q, q'⟩ => ⟨T, q, q'.of_keep k⟩), r⟩
theorem IsExc.base {B B' h : Heap} {e : Addr} {c x : Value} (k : ∀ b, B.get? b = none → B'.get? b = none) : IsExc B h e c x → IsExc B' h e c x :=
  fun ⟨o, vs, t, e1, e2, e3, e4, e5, e6, e7, e8⟩ => ⟨o, vs, t, e1, e2, e3, e4, e5, e6.imp id (fun ⟨T, q, oT, ts, f, q1, q2, q3, q4, q5⟩ => ⟨T, q, oT, ts, f, q1, q2, q3, q4, k _ q5⟩), e7, k _ e8⟩
theorem IsExc.hasCtx {B h : Heap} {e : Addr} {c x : Value} : IsExc B h e c x → HasCtx h e x := fun ⟨o, vs, t, e1, e2, e3, e4, e5, e6, e7, e8⟩ => ⟨o, vs, e1, e2 ▸ e3, e4, e7⟩
theorem HasTb.of_keep {h h' : Heap} {e : Addr} (k : ∀ b o, h.get? b = some o → h'.get? b = some o) : HasTb h e → HasTb h' e := fun ⟨o, vs, T, e1, r⟩ => ⟨o, vs, T, k _ _ e1, r⟩

theorem isFreed_slots (o : Obj) (sl : Array (Option Value)) : ({ o with slots := sl } : Obj).isFreed = o.isFreed := by
  obtain ⟨_, _, dt, _⟩ := o
  cases dt <;> rfl

/-- the frames' slots alone have changed -/
theorem slots_fields {B : Heap} {S : List Addr} {h h' : Heap} (x : Heap.SlotsOnly S h h') (hS : ∀ b ∈ S, B.get? b = none ∧ ∃ o, h.get? b = some o ∧ ∀ vs, o.data ≠ .fields vs) {b : Addr} {o : Obj} {vs : Array Value} (q : h.get? b = some o) (d : o.data = .fields vs) : h'.get? b = some o :=
  (x.2.1 b fun m => by
    obtain ⟨_, o', q', n⟩ := hS b m
    rw [q] at q'; cases q'; exact n _ d).trans q
theorem Moves.slots {B : Heap} {S : List Addr} {h h' : Heap} (x : Heap.SlotsOnly S h h') (hS : ∀ b ∈ S, B.get? b = none ∧ ∃ o, h.get? b = some o ∧ ∀ vs, o.data ≠ .fields vs) : Moves B S h h' where
  base := fun hb b o e => (x.2.1 b fun m => by rw [(hS b m).1] at e; cases e).trans (hb b o e)
  obj := fun b o e n2 _ => (x.2.1 b n2).trans e
  slo := fun b o e _ => x.2.2 b o e
  ctx := fun e v ⟨o, vs, q, q1, q2, r⟩ => ⟨o, vs, slots_fields x hS q q2, q1, q2, r⟩
theorem IsExc.slots {B : Heap} {S : List Addr} {h h' : Heap} {e : Addr} {c v : Value} (x : Heap.SlotsOnly S h h') (hS : ∀ b ∈ S, B.get? b = none ∧ ∃ o, h.get? b = some o ∧ ∀ vs, o.data ≠ .fields vs) : IsExc B h e c v → IsExc B h' e c v :=
  fun ⟨o, vs, t, e1, e2, e3, e4, e5, e6, r⟩ => ⟨o, vs, t, slots_fields x hS e1 e4, e2, e3, e4, e5, e6.imp id (fun ⟨T, q, o', ts, f, q1, q2, q3⟩ => ⟨T, q, o', ts, f, slots_fields x hS q1 q2, q2, q3⟩), r⟩

/-- a cell of a record that is an exception or a traceback is put -/
theorem Moves.put {B : Heap} {S : List Addr} {h : Heap} {a : Addr} {oa : Obj} {ws : Array Value} {i : Nat} {v : Value} (ha : h.get? a = some oa) (hd : oa.data = .fields ws) (hns : ¬ Sta oa) (hB : B.get? a = none)
    (hi : i = 1 ∨ i = 3) : Moves B S h (h.update a (Obj.mapFields (·.setIfInBounds i v))) := by
  have other : ∀ b, b ≠ a → (h.update a (Obj.mapFields (·.setIfInBounds i v))).get? b = h.get? b := fun b hb => Heap.get?_update_other _ _ (Ne.symm hb)
  have self : (h.update a (Obj.mapFields (·.setIfInBounds i v))).get? a = some (oa.mapFields (·.setIfInBounds i v)) := Heap.get?_update_self _ ha (Obj.isFreed_of_fields (Obj.data_mapFields hd _))
  refine ⟨fun hb b o e => (other b fun q => ?_).trans (hb b o e), fun b o e _ hs => (other b fun q => ?_).trans e, fun b o e hn => ⟨o.slots, (other b fun q => ?_).trans e⟩, fun e x ⟨o, vs, e1, e2, e3, e4⟩ => ?_⟩
  · rw [q, hB] at e; cases e
  · rw [q, ha] at e; cases e; exact hns hs
  · rw [q, ha] at e; cases e; exact hn _ hd
  · by_cases q : e = a
    · subst q
      rw [ha] at e1; cases e1
      rw [hd] at e3; cases e3
      exact ⟨_, _, self, by rw [Obj.cls_mapFields]; exact e2, Obj.data_mapFields hd _, by rw [Array.getElem?_setIfInBounds_ne (by rcases hi with rfl | rfl <;> decide)]; exact e4⟩
    · exact ⟨o, vs, (other e q).trans e1, e2, e3, e4⟩
theorem IsExc.put {B : Heap} {h : Heap} {a e : Addr} {oa : Obj} {ws : Array Value} {i : Nat} {v c x : Value} (ha : h.get? a = some oa) (hd : oa.data = .fields ws)
    (hi : i = 3 ∨ (i = 1 ∧ ∃ T, v = .ref T ∧ IsTb B h T)) : IsExc B h e c x → IsExc B (h.update a (Obj.mapFields (·.setIfInBounds i v))) e c x := by
  have other : ∀ b, b ≠ a → (h.update a (Obj.mapFields (·.setIfInBounds i v))).get? b = h.get? b := fun b hb => Heap.get?_update_other _ _ (Ne.symm hb)
  have self : (h.update a (Obj.mapFields (·.setIfInBounds i v))).get? a = some (oa.mapFields (·.setIfInBounds i v)) := Heap.get?_update_self _ ha (Obj.isFreed_of_fields (Obj.data_mapFields hd _))
  have hd' : (oa.mapFields (·.setIfInBounds i v)).data = .fields (ws.setIfInBounds i v) := Obj.data_mapFields hd _
  have hc' : (oa.mapFields (·.setIfInBounds i v)).cls = oa.cls := Obj.cls_mapFields _ _
  have tbk : ∀ T, IsTb B h T → IsTb B (h.update a (Obj.mapFields (·.setIfInBounds i v))) T := fun T ⟨o, ts, f, e1, e2, e3, e4, e5⟩ => by
    by_cases q : T = a
    · subst q
      rw [ha] at e1; cases e1
      rw [hd] at e2; cases e2
      rcases hi with rfl | ⟨rfl, T', rfl, hT⟩
      · exact ⟨_, _, f, self, hd', by simpa using e3, by rw [Array.getElem?_setIfInBounds_ne (by decide)]; exact e4, e5⟩
      · have hsz : 1 < ws.size := (Array.getElem?_eq_some_iff.mp e4).1
        exact ⟨_, _, T', self, hd', by simpa using e3, by simp [hsz], e5⟩
    · exact ⟨o, ts, f, (other T q).trans e1, e2, e3, e4, e5⟩
  rintro ⟨o, vs, t, e1, e2, e3, e4, e5, e6, e7, e8⟩
  have e6' : t = .none ∨ ∃ T, t = .ref T ∧ IsTb B (h.update a (Obj.mapFields (·.setIfInBounds i v))) T := e6.imp id fun ⟨T, q, q'⟩ => ⟨T, q, tbk T q'⟩
  by_cases q : e = a
  · subst q
    rw [ha] at e1; cases e1
    rw [hd] at e4; cases e4
    rcases hi with rfl | ⟨rfl, T, rfl, hT⟩
    · exact ⟨_, _, t, self, hc'.trans e2, e3, hd', by rw [Array.getElem?_setIfInBounds_ne (by decide)]; exact e5, e6', by rw [Array.getElem?_setIfInBounds_ne (by decide)]; exact e7, e8⟩
    · have hsz : 1 < ws.size := (Array.getElem?_eq_some_iff.mp e5).1
      exact ⟨_, _, .ref T, self, hc'.trans e2, e3, hd', by simp [hsz], .inr ⟨T, rfl, tbk T hT⟩, by rw [Array.getElem?_setIfInBounds_ne (by decide)]; exact e7, e8⟩
  · exact ⟨o, vs, t, (other e q).trans e1, e2, e3, e4, e5, e6', e7, e8⟩
theorem HasTb.put3 {h : Heap} {a e : Addr} {oa : Obj} {ws : Array Value} {v : Value} (ha : h.get? a = some oa) (hd : oa.data = .fields ws) : HasTb h e → HasTb (h.update a (Obj.mapFields (·.setIfInBounds 3 v))) e := by
  rintro ⟨o, vs, T, e1, e2, e3⟩
  by_cases q : e = a
  · subst q
    rw [ha] at e1; cases e1
    rw [hd] at e2; cases e2
    exact ⟨_, _, T, Heap.get?_update_self _ ha (Obj.isFreed_of_fields (Obj.data_mapFields hd _)), Obj.data_mapFields hd _, by rw [Array.getElem?_setIfInBounds_ne (by decide)]; exact e3⟩
  · exact ⟨o, vs, T, (Heap.get?_update_other _ _ (Ne.symm q)).trans e1, e2, e3⟩

/-- an exception under way: its frame's step -/
structure Step (B : Heap) (S : List Addr) (h h' : Heap) (e : Addr) (c x : Value) : Prop where
  mv : Moves B S h h'
  exc : IsExc B h' e c x
  tb : HasTb h e → HasTb h' e
theorem Step.trans {B : Heap} {S : List Addr} {h h₁ h₂ : Heap} {e : Addr} {c x : Value} (p : Step B S h h₁ e c x) (q : Step B S h₁ h₂ e c x) : Step B S h h₂ e c x := ⟨p.mv.trans q.mv, q.exc, fun t => q.tb (p.tb t)⟩

abbrev fs (l : List Env) : List Addr := l.filterMap (·.frame)

section
variable {M : Model} {A : Around} {E : Value → Shared → Prop} {s : Shared} {B : Heap} {env : Env} {outer : List Env} {L e : Addr} {c x : Value}

theorem IsExc.notSta {o : Obj} {vs : Array Value} {t : Value} {B h : Heap} (e4 : o.data = .fields vs) (e5 : vs[1]? = some t) (e6 : t = .none ∨ ∃ T, t = .ref T ∧ IsTb B h T) : ¬ Sta o :=
  Sta.not e4 e5 (e6.imp id fun ⟨T, q, _⟩ => ⟨T, q⟩)

/-- a new traceback entry -/
theorem entry_k {head : Value} {hadNext : Bool} {Q : Unit → Shared → Prop} (hfr : A.frames = some (env :: outer)) (hl : s.heap.FunFrames B (env :: outer)) (hf : env.frame = some L) (hB : B.StaysIn s.heap) (hx : IsExc B s.heap e c x)
    (h : ∀ h', Step B (fs (env :: outer)) s.heap h' e c x → HasTb h' e → Q () { s with heap := h' }) :
    wpAny M A (do let a ← frameOf env; let pl ← entryPlaceOf L hadNext; let b ← EntryCells.newEntry head a .none (rawInt L) .none pl; setField (.ref e) 1 b) Q E s := by
  refine wpAny_bind (wpAny_frameOf_fun hfr hl hf fun h₁ hs₁ => ?_)
  have K₁ : Moves B (fs (env :: outer)) s.heap h₁ := Moves.slots hs₁ fun b hb => hl.mem hb
  refine wpAny_bind (wpAny_entryPlaceOf fun pl hpl => ?_)
  unfold EntryCells.newEntry newFields
  refine wpAny_bind (wpAny_newObj_type ?_ (hpl.sizeOk5 _ _ _ _ _))
  have hx₁ := hx.slots hs₁ fun b hb => hl.mem hb
  have kp : ∀ b o, h₁.get? b = some o → (h₁.push { cls := .type "traceback", dict := none, data := .fields ([head, .ref L, .none, rawInt L, .none] ++ (if pl.isEmpty then List.replicate 6 Value.none else pl)).toArray }).get? b = some o := fun b o q => Heap.get?_push_of_some _ q
  have K₂ : Moves B (fs (env :: outer)) h₁ _ := Moves.of_keep kp
  have hx₂ := hx₁.of_keep kp
  have hst₁ := K₁.base hB
  obtain ⟨o, vs, t, e1, e2, e3, e4, e5, e6, e7, e8⟩ := id hx₂
  have hsz : 1 < vs.size := (Array.getElem?_eq_some_iff.mp e5).1
  refine wpAny_setField e1 e4 hsz ?_
  have hT : IsTb B (h₁.push { cls := .type "traceback", dict := none, data := .fields ([head, .ref L, .none, rawInt L, .none] ++ (if pl.isEmpty then List.replicate 6 Value.none else pl)).toArray }) h₁.objs.size :=
    ⟨_, _, L, Heap.get?_push_size _ rfl, rfl, by simp only [List.size_toArray, List.length_append, List.length_cons, List.length_nil]; omega, by simp, hst₁.fresh⟩
  have t' : HasTb ((h₁.push { cls := .type "traceback", dict := none, data := .fields ([head, .ref L, .none, rawInt L, .none] ++ (if pl.isEmpty then List.replicate 6 Value.none else pl)).toArray }).update e (Obj.mapFields (·.setIfInBounds 1 (.ref h₁.objs.size)))) e :=
    ⟨_, _, h₁.objs.size, Heap.get?_update_self _ e1 (Obj.isFreed_of_fields (Obj.data_mapFields e4 _)), Obj.data_mapFields e4 _, by simp [hsz]⟩
  exact h _ ⟨(K₁.trans K₂).trans (Moves.put e1 e4 (IsExc.notSta e4 e5 e6) e8 (.inl rfl)), hx₂.put e1 e4 (.inr ⟨rfl, _, rfl, hT⟩), fun _ => t'⟩ t'

theorem noteFrame_k {Q : Unit → Shared → Prop} (hfr : A.frames = some (env :: outer)) (hl : s.heap.FunFrames B (env :: outer)) (hf : env.frame = some L) (hB : B.StaysIn s.heap) (hx : IsExc B s.heap e c x)
    (h : ∀ h', Step B (fs (env :: outer)) s.heap h' e c x → HasTb h' e → Q () { s with heap := h' }) : wpAny M A (noteFrame (.ref e) env) Q E s := by
  obtain ⟨o, vs, t, e1, e2, e3, e4, e5, e6, e7, e8⟩ := id hx
  unfold noteFrame
  simp only [hf]
  refine wpAny_bind (wpAny_field e1 e4 e5 ?_)
  rcases e6 with rfl | ⟨T, rfl, hT⟩
  · rw [if_neg (by decide)]
    exact entry_k hfr hl hf hB hx h
  · rw [if_pos (show (Value.ref T != Value.none) = true from by simp)]
    obtain ⟨oT, ts, f, t1, t3, t4, t2, t5⟩ := id hT
    refine wpAny_bind (wpAny_field t1 t3 (Array.getElem?_eq_getElem t4) ?_)
    by_cases q : (ts[3] == rawInt L) = true
    · rw [if_pos q]
      exact wpAny_pure (h _ ⟨.refl _, hx, id⟩ ⟨o, vs, T, e1, e4, e5⟩)
    · rw [if_neg q]
      refine wpAny_bind (wpAny_setField t1 t3 t4 ?_)
      have K₁ : Moves B (fs (env :: outer)) s.heap _ := Moves.put (i := 3) (v := .none) t1 t3 (Sta.not t3 t2 (.inr ⟨f, rfl⟩)) t5 (.inr rfl)
      have hx₁ := hx.put (i := 3) (v := .none) t1 t3 (.inl rfl)
      refine entry_k hfr ?_ hf (K₁.base hB) hx₁ fun h' k q => h h' ⟨K₁.trans k.mv, k.exc, fun _ => q⟩ q
      exact hl.of_keeps fun b o hb hn => ⟨o, (Heap.get?_update_other _ _ fun q => by rw [← q, t1] at hb; cases hb; exact hn _ t3).trans hb, rfl⟩

theorem setFlight_k {Q : Unit → Shared → Prop} {fr : Option Addr} {S : List Addr} (hx : IsExc B s.heap e c x)
    (h : ∀ h', Step B S s.heap h' e c x → Q () { s with heap := h' }) : wpAny M A (setFlight (.ref e) fr) Q E s := by
  obtain ⟨o, vs, t, e1, e2, e3, e4, e5, e6, e7, e8⟩ := id hx
  unfold setFlight
  refine wpAny_bind (wpAny_field e1 e4 e5 ?_)
  rcases e6 with rfl | ⟨T, rfl, hT⟩
  · rw [if_neg (by decide)]
    exact wpAny_pure (h _ ⟨.refl _, hx, id⟩)
  · rw [if_pos (show (Value.ref T != Value.none) = true from by simp)]
    obtain ⟨oT, ts, f, t1, t3, t4, t2, t5⟩ := hT
    exact wpAny_setField t1 t3 t4 (h _ ⟨Moves.put t1 t3 (Sta.not t3 t2 (.inr ⟨f, rfl⟩)) t5 (.inr rfl), hx.put t1 t3 (.inl rfl), fun t => t.put3 t1 t3⟩)

theorem FunFrames.nf {B : Heap} {h h' : Heap} (k : ∀ b o, h.get? b = some o → (∀ vs, o.data ≠ .fields vs) → ∃ o', h'.get? b = some o' ∧ ∀ vs, o'.data ≠ .fields vs) : ∀ {l : List Env}, h.FunFrames B l → h'.FunFrames B l
  | [], _ => trivial
  | _ :: _, ⟨hk, ⟨L, o, hf, hn, ho, hd⟩, hr⟩ => by
    obtain ⟨o', ho', hd'⟩ := k L o ho hd
    exact ⟨hk, ⟨L, o', hf, hn, ho', hd'⟩, FunFrames.nf k hr⟩
theorem FunFrames.moves {B B' : Heap} {S : List Addr} {h h' : Heap} (k : Moves B' S h h') {l : List Env} (x : h.FunFrames B l) : h'.FunFrames B l :=
  FunFrames.nf (fun b o e hn => by obtain ⟨sl, q⟩ := k.slo b o e hn; exact ⟨_, q, hn⟩) x

theorem leaving_k {Q : Unit → Shared → Prop} (hfr : A.frames = some (env :: outer)) (hl : s.heap.FunFrames B (env :: outer)) (hf : env.frame = some L) (hB : B.StaysIn s.heap) (hx : IsExc B s.heap e c x)
    (h : ∀ h', Step B (fs (env :: outer)) s.heap h' e c x → HasTb h' e → Q () { s with heap := h' }) : wpAny M A (leaving env (.ref e)) Q E s := by
  unfold leaving
  refine wpAny_bind (noteFrame_k hfr hl hf hB hx fun h₁ k₁ t₁ => ?_)
  exact setFlight_k k₁.exc fun h₂ k₂ => h h₂ (k₁.trans k₂) (k₂.tb t₁)

theorem passOn_k {α : Type} {what : String} {Q : α → Shared → Prop} {S : List Addr} (hx : IsExc B s.heap e c x) (ht : HasTb s.heap e)
    (h : ∀ h', Step B S s.heap h' e c x → HasTb h' e → E (.ref e) { s with heap := h' }) : wpAny M A (PySem.passOn what (.ref e) env : Sem α) Q E s := by
  obtain ⟨o, vs, T, e1, e2, e3⟩ := id ht
  unfold PySem.passOn
  refine wpAny_bind (wpAny_field e1 e2 e3 ?_)
  rw [if_neg (show ¬ ((Value.ref T == Value.none) = true) from by simp)]
  refine wpAny_bind (setFlight_k (S := S) hx fun h' k => ?_)
  exact wpAny_throw (h h' k (k.tb ht))

theorem came_k {S : List Addr} (hx : IsExc B s.heap e c x) (ht : HasTb s.heap e) (h : ∀ h', Step B S s.heap h' e c x → HasTb h' e → E (.ref e) { s with heap := h' }) : cameBackBy M A env E (.ref e) s := by
  obtain ⟨o, vs, T, e1, e2, e3⟩ := id ht
  unfold cameBackBy
  refine wpAny_bind (wpAny_field e1 e2 e3 ?_)
  rw [if_neg (show ¬ ((Value.ref T == Value.none) = true) from by simp)]
  exact setFlight_k hx fun h' k => h h' k (k.tb ht)

theorem noted_k (hfr : A.frames = some (env :: outer)) (hl : s.heap.FunFrames B (env :: outer)) (hf : env.frame = some L) (hB : B.StaysIn s.heap) (hx : IsExc B s.heap e c x)
    (h : ∀ h', Step B (fs (env :: outer)) s.heap h' e c x → HasTb h' e → E (.ref e) { s with heap := h' }) : notedBy M A env E (.ref e) s :=
  noteFrame_k hfr hl hf hB hx h
end

/-! ## the chain of contexts -/
def ChainOk (h : Heap) : Nat → Value → Prop
  | 0, v => v = .none
  | n + 1, v => v = .none ∨ ∃ e x, v = .ref e ∧ HasCtx h e x ∧ ChainOk h n x
theorem ChainOk.keeps {h h' : Heap} (k : ∀ e x, HasCtx h e x → HasCtx h' e x) : ∀ {n : Nat} {v : Value}, ChainOk h n v → ChainOk h' n v
  | 0, _, q => q
  | n + 1, _, q => q.imp id fun ⟨e, x, q1, q2, q3⟩ => ⟨e, x, q1, k _ _ q2, ChainOk.keeps k q3⟩
theorem HasCtx.of_keep {h h' : Heap} {e : Addr} {x : Value} (k : ∀ b o, h.get? b = some o → h'.get? b = some o) : HasCtx h e x → HasCtx h' e x := fun ⟨o, vs, q, r⟩ => ⟨o, vs, k _ _ q, r⟩

section
variable {prog : Program} {w : World} {A : Around} {E : Value → Shared → Prop} {s : Shared} {B : Heap}

theorem entry_unchain : entryFor table "proto.unchain" = some Builtin.«proto.unchain» := entryFor_of_tree (by kernel_rfl)

inductive Path (h : Heap) : Addr → Addr → Prop where
  | refl (a : Addr) : Path h a a
  | step {a b y : Addr}   : HasCtx h a (.ref y) → Path h y b → Path h a b
theorem Path.snoc {h : Heap} {a b z : Addr} (p : Path h a b) (q : HasCtx h b (.ref z)) : Path h a z := by
  induction p with
  | refl a => exact .step q (.refl _)
  | step hx _ ih => exact .step hx (ih q)

theorem field_k {M : Model} {h₀ : Heap} {o : Addr} {x : Value} {Q : Value → Shared → Prop} (k : ∀ b o, h₀.get? b = some o → s.heap.get? b = some o) (hx : HasCtx h₀ o x) (h : Q x s) : wpAny M A (field (.ref o) 2) Q E s := by
  obtain ⟨oo, vs, e1, e2, e4, e7⟩ := hx
  exact wpAny_field (k _ _ e1) e4 e7 h

/-- the walk down the chain ends and changes nothing: the new exception is not in it -/
theorem unchain_k {R : Result → Shared → Prop} {h₀ : Heap} {e : Addr} (k : ∀ b o, h₀.get? b = some o → s.heap.get? b = some o) (he : h₀.get? e = none) (hR : R (.ok (.ret .none)) s) : ∀ (n : Nat) (o sl : Addr) (x : Value) (tg : Bool), HasCtx h₀ o x → ChainOk h₀ n x →
    Path h₀ sl o → codeAny (model prog w) A (.builtin "proto.unchain" ⟨[.ref e, .ref o, .ref sl, .bool tg], []⟩) R s := by
  have none_ : ∀ (o sl : Addr) (tg : Bool), HasCtx h₀ o .none → codeAny (model prog w) A (.builtin "proto.unchain" ⟨[.ref e, .ref o, .ref sl, .bool tg], []⟩) R s := fun o sl tg hx => by
    refine codeAny_builtin entry_unchain ?_
    unfold Builtin.«proto.unchain»
    dsimp only
    refine wpAny_bind (field_k k hx ?_)
    rw [if_pos (by rfl)]
    first | (refine wpAny_pure ?_; exact hR) | (refine wpAny_bind (wpAny_pure ?_); refine wpAny_pure ?_; exact hR)
  intro n
  induction n with
  | zero =>
    intro o sl x tg hx hc hp
    cases (show x = .none from hc)
    exact none_ o sl tg hx
  | succ n ih =>
    intro o sl x tg hx hc hp
    rcases hc with rfl | ⟨z, xz, rfl, hz, hcz⟩
    · exact none_ o sl tg hx
    refine codeAny_builtin entry_unchain ?_
    unfold Builtin.«proto.unchain»
    dsimp only
    refine wpAny_bind (field_k k hx ?_)
    rw [if_neg (by simp)]
    have hze : z ≠ e := fun q => by
      obtain ⟨oo, vs, e1, _⟩ := hz
      rw [q, he] at e1; cases e1
    rw [if_neg (by simp [hze])]
    by_cases q : (Value.ref z == Value.ref sl) = true
    · rw [if_pos q]
      refine wpAny_bind (wpAny_rule ?_)
      first | (refine wpAny_pure ?_; exact hR) | (refine wpAny_bind (wpAny_pure ?_); refine wpAny_pure ?_; exact hR)
    · rw [if_neg q]
      cases tg with
      | false => exact wpAny_bind (wpAny_pure (wpAny_pure ⟨Code.quiet_builtin _ (by decide +kernel), ih z sl xz true hz hcz (hp.snoc hx)⟩))
      | true =>
        cases hp with
        | refl => exact wpAny_bind (field_k k hx (wpAny_pure ⟨Code.quiet_builtin _ (by decide +kernel), ih z z xz false hz hcz (.refl _)⟩))
        | step h1 h2 => exact wpAny_bind (field_k k h1 (wpAny_pure ⟨Code.quiet_builtin _ (by decide +kernel), ih z _ xz false hz hcz (h2.snoc hx)⟩))
end

/-! E2 -/
namespace SE
theorem sub (T : String) (b : Bool) (e : (fastBuiltinMro "SystemExit").map (·.contains (Value.type T)) = some b) : isSubtype (.type "SystemExit") (.type T) = pure b := by
  rw [isSubtype_type]
  obtain ⟨l, a, rfl⟩ := Option.map_eq_some_iff.mp e
  rw [a]
theorem subExc : isSubtype (.type "SystemExit") (.type "BaseException") = pure true := sub _ _ (by kernel_rfl)
theorem subSelf : isSubtype (.type "SystemExit") (.type "SystemExit") = pure true := sub _ _ (by kernel_rfl)
theorem notAttr : isSubtype (.type "SystemExit") (.type "AttributeError") = pure false := sub _ _ (by kernel_rfl)
theorem notName : isSubtype (.type "SystemExit") (.type "NameError") = pure false := sub _ _ (by kernel_rfl)
theorem notType : (Value.type "SystemExit" == Value.type "type") = false := by decide +kernel
theorem canNew : (((Manifest.find? "SystemExit").bind (·.mro.findSome? fun (t : String) => (Manifest.find? t).bind fun b => if b.noNew then some true else if b.attrs.any (·.1 == "__new__") then some false else none)).getD false) = false := by decide +kernel
theorem typeCall : checkTypeCall "SystemExit" ⟨[], []⟩ = pure () := by kernel_rfl
theorem mro : ∃ l, mroOf (.type "SystemExit") = pure l ∧ l.isEmpty = false := ⟨[.type "SystemExit", .type "BaseException", .type "object"], by rw [mroOf_type]; kernel_rfl, rfl⟩
theorem madeBy : Bind.madeBy (.type "SystemExit") = pure (some "BaseException.__new__") := by kernel_rfl
theorem newCheck : checkBuiltinCall "BaseException.__new__" ⟨[.type "SystemExit"], []⟩ = pure () := by kernel_rfl
theorem newEntry : entryFor table "BaseException.__new__" = some Builtin.«BaseException.__new__» := entryFor_of_tree (by kernel_rfl)
theorem newPlain : plainId "BaseException.__new__" = true := by decide +kernel
theorem newEnds : ("BaseException.__new__" : String).endsWith ".__new__" = true := by decide +kernel
theorem subOwner : isSubtype (.type "SystemExit") (.type (("BaseException.__new__" : String).dropRight 8)) = pure true := sub _ _ (by kernel_rfl)
theorem madeHere : Bind.madeHere "BaseException.__new__" (.type "SystemExit") = pure () := by kernel_rfl
theorem init : Slot "SystemExit" "__init__" "SystemExit.__init__" := .of (owner := "SystemExit") (n := "__init__") (by rw [typeLookup_type, builtinLookup_eq_fast]; kernel_rfl) (by decide +kernel) (by decide +kernel) (by decide +kernel)
    (by first | exact .inl (by decide +kernel) | exact .inr (by decide +kernel)) (by rw [isSubtype_type]; kernel_rfl)
theorem initEntry : entryFor table "SystemExit.__init__" = some Builtin.«SystemExit.__init__» := entryFor_of_tree (by kernel_rfl)
theorem baseEntry : entryFor table "BaseException.__init__" = some Builtin.«BaseException.__init__» := entryFor_of_tree (by kernel_rfl)
theorem initKind : builtinKind "SystemExit.__init__" = some .slot := by decide +kernel
theorem initSplit : splitId "SystemExit.__init__" = some ("SystemExit", "__init__") := by decide +kernel
theorem initSig : Manifest.signature? "SystemExit.__init__" = some ⟨.positional, "*", "SystemExit", .self, [⟨"args", .varPos, false⟩]⟩ := by kernel_rfl
theorem metaType : (Value.type ((Manifest.find? "SystemExit").elim "type" (·.metatype)) == Value.type "type") = true := by decide +kernel

section
variable {prog : Program} {w : World} {A : Around} {E : Value → Shared → Prop} {s : Shared}

theorem new_ {Q : Value → Shared → Prop}
    (h : Q (.ref (s.heap.push { cls := .type "tuple", data := .seq #[] }).objs.size) { s with heap := (s.heap.push { cls := .type "tuple", data := .seq #[] }).push { cls := .type "SystemExit", data := .fields #[.ref s.heap.objs.size, .none, .none, .none, .bool false, .none] } }) :
    wpAny (model prog w) A (call (.builtin "BaseException.__new__") [.type "SystemExit"]) Q E s := by
  refine call_builtin_at newPlain newEntry newCheck ?_
  unfold Builtin.«BaseException.__new__»
  refine PyProof.Rows.wpAt_bind (wpAt_owner rfl newEnds (wpAt_of_any ?_))
  dsimp only
  refine wpAny_bind (m := isType _) (wpAny_of_eq (a := true) rfl ?_)
  simp only [Bool.not_true, Bool.false_eq_true, if_false]
  refine wpAny_bind (wpAny_of_eq subOwner ?_)
  simp only [Bool.not_true, Bool.false_eq_true, if_false]
  refine wpAny_bind (wpAny_of_eq madeHere ?_)
  refine wpAny_bind (wpAny_of_eq (a := 0) ?own ?_)
  case own =>
    show (do
      if ← isSubtype (.type "SystemExit") (.type "AttributeError") then return 2
      if ← isSubtype (.type "SystemExit") (.type "NameError") then return 1
      return 0 : Sem Nat) = pure 0
    simp only [notAttr, notName, pure_bind, Bool.false_eq_true, if_false]
  unfold newTuple
  refine wpAny_bind (wpAny_newObj_type (wpAny_bind (wpAny_newObj_type (wpAny_pure ⟨_, rfl, ?_⟩) (by size_fits))) (by size_fits))
  first
    | exact h
    | simpa using h

theorem check_init {M : Model} {self : Value} {Q : Unit → Shared → Prop} (hT : s.TypeIs self "SystemExit") (hQ : Q () s) :
    wpAny M A (checkBuiltinCall "SystemExit.__init__" ⟨[self], []⟩) Q E s := by
  simp only [checkBuiltinCall, initKind, initSplit, initSig]
  refine wpAny_bind (wpAny_isInstance hT subSelf ?_)
  simp only [Bool.not_true, Bool.false_eq_true, if_false]
  unfold Bind.checkArgs
  dsimp only
  refine wpAny_bind (m := Bind.printed "*" true _ _) (printed_star (self := self) rfl hT fun full => ?_)
  refine wpAny_bind (m := Bind.printed "SystemExit" false _ _) (printed_name (by decide) ?_)
  show wpAny M A (Sem.onRaise (Bind.check _ full "SystemExit" _ []) _) Q E s
  rw [check_varPos]
  exact wpAny_pure hQ

theorem init_ {e : Addr} {ob : Obj} {vs : Array Value} {t0 : Addr} {Q : Value → Shared → Prop}
    (he : s.heap.get? e = some ob) (hcls : ob.cls = .type "SystemExit") (hd : ob.data = .fields vs) (h0 : vs[0]? = some (.ref t0))
    (h : Q .none { s with heap := (s.heap.push { cls := .type "tuple", data := .seq #[] }).update e (Obj.mapFields (·.setIfInBounds 0 (.ref s.heap.objs.size))) }) :
    wpAny (model prog w) A (call (.builtin "SystemExit.__init__") [.ref e]) Q E s := by
  have hT : s.TypeIs (.ref e) "SystemExit" := ⟨ob, he, hcls⟩
  refine wpAny_call (codeAny_call_builtin init.plain initEntry (check_init hT ?_))
  unfold Builtin.«SystemExit.__init__»
  dsimp only
  refine wpAny_bind (wpAny_runValue (codeAny_builtin baseEntry ?_))
  unfold Builtin.«BaseException.__init__»
  dsimp only
  rw [if_neg (by simp)]
  unfold newTuple Builtin.BaseException.bexcPut
  have hsz : 0 < vs.size := (Array.getElem?_eq_some_iff.mp h0).1
  have he₁ := Heap.get?_push_of_some (h := s.heap) { cls := .type "tuple", data := .seq ([] : List Value).toArray } he
  refine wpAny_bind (wpAny_newObj_type (wpAny_bind (wpAny_bind (wpAny_field he₁ hd h0 (wpAny_bind (wpAny_setField he₁ hd hsz ?_))))) (by size_fits))
  refine wpAny_letGo (wpAny_pure ?_)
  exact wpAny_bind (wpAny_rule (wpAny_pure h))

theorem call_ {Q : Value → Shared → Prop} (h : ∀ h' e, Heap.NewExc s.heap h' e "SystemExit" → Q (.ref e) { s with heap := h' }) :
    wpAny (model prog w) A (call (.type "SystemExit") []) Q E s := by
  refine wpAny_call (codeAny_of_tree ?_)
  show wpAny _ _ (callAny (.type "SystemExit") ⟨[], []⟩) _ _ s
  simp only [callAny]
  refine wpAny_pure ⟨Code.quiet_builtin _ (by decide +kernel), codeAny_builtin PyProof.Rows.entry_type_call ?_⟩
  rw [Around.under_plain (weight_type_call "SystemExit" _ _) (by first | rfl | kernel_rfl | decide +kernel)]
  unfold Builtin.«type.__call__»
  dsimp only
  rw [if_neg (by rw [notType]; exact Bool.false_ne_true), if_neg (by rw [canNew]; exact Bool.false_ne_true)]
  obtain ⟨l, hl, hle⟩ := mro
  refine wpAny_bind (wpAny_of_eq typeCall (wpAny_bind (wpAny_of_eq hl ?_)))
  rw [if_neg (by rw [hle]; exact Bool.false_ne_true)]
  refine wpAny_bind (wpAny_of_eq madeBy ?_)
  dsimp only
  refine wpAny_bind (wpAny_pure (wpAny_bind (wpAny_holding (new_ ?_))))
  refine wpAny_bind (wpAny_isInstance (T := "SystemExit") ⟨_, Heap.get?_push_size _ rfl, rfl⟩ subSelf ?_)
  simp only [Bool.not_true, Bool.false_eq_true, if_false]
  refine wpAny_bind (wpAny_holding (wpAny_callSpecial?_slot (name := Str.ofString "__init__") (T := "SystemExit") ⟨_, Heap.get?_push_size _ rfl, rfl⟩ init
    (init_ (Heap.get?_push_size _ rfl) rfl rfl rfl ?_)))
  dsimp only
  rw [if_neg (by simp)]
  refine wpAny_pure (h _ _ ⟨fun b o hb => ?_, Heap.get?_none_of_le (by simp), _, _,
    Heap.get?_update_self _ (Heap.get?_push_of_some _ (Heap.get?_push_size _ rfl)) (Obj.isFreed_of_fields (Obj.data_mapFields rfl _)), Obj.cls_mapFields _ _, by rw [Obj.data_mapFields rfl]; rfl⟩)
  rw [Heap.get?_update_other _ _ (Nat.ne_of_gt (Nat.lt_of_lt_of_le (Heap.lt_size hb) (by simp)))]
  exact Heap.get?_push_of_some _ (Heap.get?_push_of_some _ (Heap.get?_push_of_some _ hb))
end
end SE
/-- what is wanted of a class to be raised by its name -/
structure RaiseOk (X : String) : Prop where
  exc : ExC (.type X)
  base : isSubtype (.type X) (.type "BaseException") = pure true
  self : isSubtype (.type X) (.type X) = pure true
  metaType : (Value.type ((Manifest.find? X).elim "type" (·.metatype)) == Value.type "type") = true
  call : ∀ {prog : Program} {w : World} {A : Around} {E : Value → Shared → Prop} {s : Shared} {Q : Value → Shared → Prop}, (∀ h' e, Heap.NewExc s.heap h' e X → Q (.ref e) { s with heap := h' }) → wpAny (model prog w) A (call (.type X) []) Q E s
theorem ok_SystemExit : RaiseOk "SystemExit" := ⟨.inl rfl, SE.subExc, SE.subSelf, SE.metaType, fun h => SE.call_ h⟩
theorem ok_KeyError : RaiseOk "KeyError" := ⟨.inr (.inl rfl), excClass_KeyError.base, excClass_KeyError.self, excClass_KeyError.metaType, fun h => call_exc excClass_KeyError h⟩
theorem ok_ValueError : RaiseOk "ValueError" := ⟨.inr (.inr rfl), excClass_ValueError.base, excClass_ValueError.self, excClass_ValueError.metaType, fun h => call_exc excClass_ValueError h⟩

section
variable {prog : Program} {w : World} {A : Around} {E : Value → Shared → Prop} {s : Shared} {env : Env} {B : Heap} {X : String}

theorem nested_self {k : Value} {dep : Int} {tk : Tok} {Q : Fin → Shared → Prop} (hk : k = .int dep tk) (hc : RaiseOk X) (hq : Q (.done (.ret (.bool true))) s) :
    wpAny (model prog w) A (Builtin.«issubclass.nested» ⟨[.type X, .type X, k], []⟩) Q E s := by
  subst hk
  have hm := hc.metaType
  have hself := hc.self
  repeat (any_goals (first | assumption | (rw [if_pos hm]) | (rw [hself]) | wp_step))
theorem issub_self (hc : RaiseOk X) : Meets (Builtin.«issubclass» ⟨[.type X, .type X], []⟩) (fun _ R s => R (.ok (.ret (.bool true))) s) :=
  fun _ _ _ _ _ hs => issubclass_outer (nested_self rfl hc hs)

/-- a handled exception, or none -/
def HandOk (h : Heap) (hd : Option Value) : Prop := hd = none ∨ ∃ e x n, hd = some (.ref e) ∧ HasCtx h e x ∧ ChainOk h n x
theorem HandOk.keeps {h h' : Heap} {hd : Option Value} (k : ∀ e x, HasCtx h e x → HasCtx h' e x) (q : HandOk h hd) : HandOk h' hd :=
  q.imp id fun ⟨e, x, n, q1, q2, q3⟩ => ⟨e, x, n, q1, k _ _ q2, q3.keeps k⟩

theorem Raise_k {x : Str} {np pos : Pos} {Q : Flow → Shared → Prop} (hc : RaiseOk X) (hB : B.StaysIn s.heap) (hh : HandOk s.heap A.handled)
    (hx : wpAny (model prog w) A (eval (.Name x np) env) (fun v s₁ => v = .type X ∧ s₁ = s) E s)
    (h : ∀ h' e ctx n, (∀ b o, s.heap.get? b = some o → h'.get? b = some o) → s.heap.get? e = none → IsExc B h' e (.type X) ctx → ChainOk h' n ctx → E (.ref e) { s with heap := h' }) :
    wpAny (model prog w) A (exec (.Raise (some (.Name x np)) none pos) env) Q E s := by
  show wpAny (model prog w) A (do standAt pos; raiseStmt env (some (do let v ← eval (.Name x np) env; standAt pos; pure v)) none) Q E s
  refine wpAny_bind (wpAny_standAt ?_)
  unfold raiseStmt
  dsimp only
  refine wpAny_bind (wpAny_bind (wpAny_mono hx (fun v s₁ h₁ => wpAny_bind (wpAny_standAt (wpAny_pure ?_))) fun _ _ e => e))
  obtain ⟨rfl, hs₁⟩ := h₁
  subst s₁
  refine wpAny_bind (wpAny_pure ?_)
  dsimp only
  refine wpAny_bind (wpAny_holding ?_)
  unfold excFromValue isExcClass
  refine wpAny_bind (wpAny_bind (wpAny_pure ?_))
  simp only [if_true]
  rw [hc.base]
  refine wpAny_pure ?_
  simp only [if_true]
  refine wpAny_bind (hc.call fun h' e hn => ?_)
  obtain ⟨ob, t, he, hcls, hd⟩ := hn.there
  have hT : ({ s with heap := h' } : Shared).TypeIs (.ref e) X := ⟨ob, he, hcls⟩
  refine wpAny_bind (wpAny_isInstance hT hc.base ?_)
  simp only [Bool.not_true, Bool.false_eq_true, if_false]
  refine wpAny_pure ?_
  first | (refine wpAny_bind (m := isType (.type X)) (wpAny_pure ?_)) | (refine wpAny_bind (wpAny_pure ?_))
  first | (rw [if_pos rfl]) | (simp only [if_true]) | dsimp only
  refine wpAny_bind (wpAny_holding ?_)
  unfold raisedFor
  first | (simp only [Bool.false_eq_true, if_false]) | (rw [if_neg (by decide)]) | skip
  first | (refine wpAny_bind (wpAny_typeOf hT ?_)) | (refine wpAny_bind ?_; refine wpAny_bind (wpAny_typeOf hT ?_))
  refine wpAny_bind (call_issubclass (issub_self hc) ?_)
  first | (refine wpAny_bind (wpAny_truthy_bool ?_)) | (refine wpAny_truthy_bool ?_) | (dsimp only [wants]; first | (refine wpAny_bind (wpAny_truthy_bool ?_)) | (refine wpAny_truthy_bool ?_))
  first | (rw [if_pos rfl]) | (simp only [if_true]) | skip
  refine wpAny_pure ?_
  unfold setFlight raiseNew
  refine wpAny_bind (wpAny_bind (wpAny_field (i := 1) (x := Value.none) he hd rfl ?_))
  rw [if_neg (by decide)]
  refine wpAny_pure (wpAny_bind (wpAny_handled ?_))
  have hBe : B.get? e = none := by
    cases q : B.get? e with
    | none => rfl
    | some o => have := hB e o q; rw [hn.new] at this; cases this
  rcases hh with hh | ⟨e0, x0, n, hh, hx0, hc0⟩
  · rw [hh]
    refine wpAny_bind (wpAny_pure (wpAny_throw (h h' e .none 0 hn.keeps hn.new ⟨ob, _, .none, he, hcls, hc.exc, hd, rfl, .inl rfl, rfl, hBe⟩ rfl)))
  · rw [hh]
    dsimp only
    have hne : e0 ≠ e := fun q => by
      obtain ⟨o, vs, e1, _⟩ := hx0
      rw [q, hn.new] at e1; cases e1
    rw [if_pos (by simp [hne])]
    refine wpAny_bind (wpAny_holding (wpAny_runValue ?_))
    refine unchain_k (s := { s with heap := h' }) hn.keeps hn.new ?_ n e0 e0 x0 false hx0 hc0 (.refl _)
    dsimp only
    unfold updateField
    refine wpAny_bind (wpAny_bind (wpAny_load he ?_))
    rw [hd]
    dsimp only
    rw [if_pos (by show (2 : Nat) < 6; decide)]
    refine wpAny_update he (wpAny_throw ?_)
    have self : (h'.update e (Obj.mapFields (·.setIfInBounds 2 (.ref e0)))).get? e = some (ob.mapFields (·.setIfInBounds 2 (.ref e0))) := Heap.get?_update_self _ he (Obj.isFreed_of_fields (Obj.data_mapFields hd _))
    have K : ∀ b o, s.heap.get? b = some o → (h'.update e (Obj.mapFields (·.setIfInBounds 2 (.ref e0)))).get? b = some o := fun b o q => (Heap.get?_update_other _ _ fun z => by rw [← z, hn.new] at q; cases q).trans (hn.keeps b o q)
    exact h _ e (.ref e0) (n + 1) K hn.new ⟨_, _, .none, self, (Obj.cls_mapFields _ _).trans hcls, hc.exc, Obj.data_mapFields hd _, rfl, .inl rfl, rfl, hBe⟩ (.inr ⟨e0, x0, rfl, hx0.of_keep K, hc0.keeps fun _ _ q => q.of_keep K⟩)
end

/-! E3 -/
/-- the part of a heap that lies where another one is alive -/
def cutBy (g h : Heap) : Heap := hideAll ⟨h.objs.extract 0 g.objs.size, h.life⟩ ((List.range g.objs.size).filter fun b => (g.get? b).isNone)
theorem extract_get {h : Heap} {n b : Nat} (hb : b < n) : (⟨h.objs.extract 0 n, h.life⟩ : Heap).get? b = h.get? b := by
  unfold Heap.get?
  have : (h.objs.extract 0 n)[b]? = h.objs[b]? := by
    rw [Array.getElem?_extract]
    by_cases q : b < h.objs.size
    · rw [if_pos (by omega), Nat.zero_add]
    · rw [if_neg (by omega), Array.getElem?_eq_none (by omega)]
  dsimp only
  rw [this]
theorem cutBy_get {g h : Heap} {b : Addr} {o₀ o : Obj} (e₀ : g.get? b = some o₀) (e : h.get? b = some o) : (cutBy g h).get? b = some o := by
  refine hideAll_get _ ((extract_get (Heap.lt_size e₀)).trans e) fun hm => ?_
  have := (List.mem_filter.mp hm).2
  rw [e₀] at this; cases this
theorem cutBy_of {g h : Heap} {b : Addr} {o : Obj} (e : (cutBy g h).get? b = some o) : h.get? b = some o ∧ ∃ o₀, g.get? b = some o₀ := by
  have e1 := of_hideAll _ e
  have hb : b < g.objs.size := by
    have h1 : b < (h.objs.extract 0 g.objs.size).size := Heap.lt_size e1
    rw [Array.size_extract] at h1
    exact Nat.lt_of_lt_of_le h1 (by omega)
  refine ⟨(extract_get hb).symm.trans e1, ?_⟩
  cases q : g.get? b with
  | some o₀ => exact ⟨o₀, rfl⟩
  | none =>
    have : (cutBy g h).get? b = none := hideAll_none _ (List.mem_filter.mpr ⟨List.mem_range.mpr hb, by rw [q]; rfl⟩)
    rw [this] at e; cases e
theorem cutBy_none {g h : Heap} {b : Addr} (e : g.get? b = none) : (cutBy g h).get? b = none := by
  cases q : (cutBy g h).get? b with
  | none => rfl
  | some o => obtain ⟨_, o₀, q'⟩ := cutBy_of q; rw [e] at q'; cases q'
theorem cutBy_size (g h : Heap) : (cutBy g h).objs.size ≤ g.objs.size := by
  unfold cutBy
  rw [hideAll_size, Array.size_extract]
  omega

theorem StaysIn.trans {a b c : Heap} (x : a.StaysIn b) (y : b.StaysIn c) : a.StaysIn c := fun n o e => y n o (x n o e)

/-- what a call keeps: all that was, but the frames' slots (S) and the addresses X -/
structure Keeps (S X : List Addr) (h h' : Heap) : Prop where
  obj : ∀ b o, h.get? b = some o → b ∉ X → b ∉ S → h'.get? b = some o
  slo : ∀ b o, h.get? b = some o → b ∉ X → (∀ vs, o.data ≠ .fields vs) → ∃ sl, h'.get? b = some { o with slots := sl }
  nf : ∀ b o, h.get? b = some o → (∀ vs, o.data ≠ .fields vs) → ∃ o', h'.get? b = some o' ∧ ∀ vs, o'.data ≠ .fields vs
  ctx : ∀ e x, HasCtx h e x → HasCtx h' e x
theorem Keeps.of_keep {S X : List Addr} {h h' : Heap} (k : ∀ b o, h.get? b = some o → h'.get? b = some o) : Keeps S X h h' :=
  ⟨fun b o e _ _ => k b o e, fun b o e _ _ => ⟨o.slots, k b o e⟩, fun b o e hn => ⟨o, k b o e, hn⟩, fun e x q => q.of_keep k⟩
theorem Keeps.refl {S X : List Addr} (h : Heap) : Keeps S X h h := .of_keep fun _ _ e => e
theorem Keeps.trans {S X : List Addr} {h h₁ h₂ : Heap} (x : Keeps S X h h₁) (y : Keeps S X h₁ h₂) : Keeps S X h h₂ where
  obj := fun b o e n1 n2 => y.obj b o (x.obj b o e n1 n2) n1 n2
  slo := fun b o e n1 hn => by
    obtain ⟨s1, e1⟩ := x.slo b o e n1 hn
    obtain ⟨s2, e2⟩ := y.slo b _ e1 n1 hn
    exact ⟨s2, e2⟩
  nf := fun b o e hn => by
    obtain ⟨o1, e1, n1⟩ := x.nf b o e hn
    exact y.nf b o1 e1 n1
  ctx := fun e v q => y.ctx e v (x.ctx e v q)
theorem FunFrames.keeps {B : Heap} {S X : List Addr} {h h' : Heap} (k : Keeps S X h h') {l : List Env} (x : h.FunFrames B l) : h'.FunFrames B l := FunFrames.nf k.nf x
theorem FunFrames.base {B B' h : Heap} : ∀ {l : List Env}, h.FunFrames B l → (∀ b ∈ fs l, B'.get? b = none) → h.FunFrames B' l
  | [], _, _ => trivial
  | env :: r, ⟨hk, ⟨L, o, hf, hn, ho, hd⟩, hr⟩, q => ⟨hk, ⟨L, o, hf, q L (by unfold fs; rw [List.filterMap_cons, hf]; exact List.mem_cons_self), ho, hd⟩,
      FunFrames.base hr fun b hb => q b (by unfold fs; rw [List.filterMap_cons, hf]; exact List.mem_cons_of_mem _ hb)⟩

theorem mem_fs {env : Env} {outer : List Env} {L b : Addr} (hf : env.frame = some L) : b ∈ fs (env :: outer) ↔ b = L ∨ b ∈ fs outer := by
  unfold fs
  rw [List.filterMap_cons, hf]
  exact List.mem_cons

section
variable {A₀ : Around} {B g h h' : Heap} {outer : List Env} {env : Env} {L : Addr} {m : Str → Option Value} {news : List (Addr × Obj)}

theorem ground_ne (F : Fr g L h m) {b : Addr} {o : Obj} (e : g.get? b = some o) : b ≠ L := fun q =>
  absurd (Nat.lt_of_lt_of_le (Heap.lt_size e) F.above) (by rw [q]; exact Nat.lt_irrefl _)
theorem news_fs (Bw : Below A₀ B outer g) (N : News g L h news) (hf : env.frame = some L) {p : Addr × Obj} (hp : p ∈ news) : p.1 ∉ fs (env :: outer) := fun q => by
  rcases (mem_fs hf).mp q with q | q
  · exact (N p hp).2.1 q
  · obtain ⟨_, o, ho, _⟩ := Bw.frames.mem q
    rw [(N p hp).2.2] at ho; cases ho
theorem base_fs (Bw : Below A₀ B outer g) {b : Addr} {o : Obj} (e : B.get? b = some o) : b ∉ fs outer := fun q => by
  rw [(Bw.frames.mem q).1] at e; cases e

/-- a ground anew, behind what has turned the frames' slots and things that are not the ground's -/
theorem back0 (Bw : Below A₀ B outer g) (F : Fr g L h m) (hL : ∃ o sl, h.get? L = some o ∧ h'.get? L = some { o with slots := sl })
    (ob : ∀ b o, g.get? b = some o → b ∉ fs outer → h'.get? b = some o) (sl : ∀ b o, g.get? b = some o → (∀ vs, o.data ≠ .fields vs) → ∃ s, h'.get? b = some { o with slots := s }) (cx : ∀ e x, HasCtx h e x → HasCtx h' e x) :
    Keeps (fs outer) [] g (cutBy g h') ∧ Fr (cutBy g h') L h' m ∧ Below A₀ B outer (cutBy g h') := by
  have T : Keeps (fs outer) [] g (cutBy g h') := by
    refine ⟨fun b o e _ n2 => cutBy_get e (ob b o e n2), fun b o e _ hn => ?_, fun b o e hn => ?_, fun e x ⟨o, vs, q, r⟩ => ?_⟩
    · obtain ⟨s, q⟩ := sl b o e hn
      exact ⟨s, cutBy_get e q⟩
    · obtain ⟨s, q⟩ := sl b o e hn
      exact ⟨_, cutBy_get e q, hn⟩
    · obtain ⟨o', vs', q', r'⟩ := cx e x ⟨o, vs, F.keep _ _ q, r⟩
      exact ⟨o', vs', cutBy_get q q', r'⟩
  obtain ⟨oL, es, ep, e1, e2, e3⟩ := F.ns
  obtain ⟨o, s, f1, f2⟩ := hL
  rw [e1] at f1; cases f1
  exact ⟨T, ⟨⟨_, es, ep, f2, e2, e3⟩, fun b o e => (cutBy_of e).1, Nat.le_trans (cutBy_size _ _) F.above⟩, ⟨Bw.stack, fun b o e => T.obj b o (Bw.stays b o e) (fun q => nomatch q) (base_fs Bw e), FunFrames.keeps T Bw.frames⟩⟩

theorem back {X : List Addr} (Bw : Below A₀ B outer g) (F : Fr g L h m) (N : News g L h news) (hf : env.frame = some L) (hX : ∀ x ∈ X, x ∈ news.map (·.1)) (k : Keeps (fs (env :: outer)) X h h') :
    ∃ g', Keeps (fs outer) [] g g' ∧ Fr g' L h' m ∧ Below A₀ B outer g' ∧ (∀ b, g.get? b = none → g'.get? b = none) ∧ ∀ p ∈ news, p.1 ∉ X → h'.get? p.1 = some p.2 := by
  have hLX : L ∉ X := fun q => by
    obtain ⟨p, hp, e⟩ := List.mem_map.mp (hX L q)
    exact (N p hp).2.1 e
  have hgX : ∀ b o, g.get? b = some o → b ∉ X := fun b o e q => by
    obtain ⟨p, hp, e'⟩ := List.mem_map.mp (hX b q)
    have := (N p hp).2.2
    rw [e', e] at this; cases this
  obtain ⟨oL, es, ep, e1, e2, _⟩ := F.ns
  obtain ⟨sl, e3⟩ := k.slo L oL e1 hLX (fun vs q => by rw [e2] at q; cases q)
  obtain ⟨T, F', Bw'⟩ := back0 (h' := h') Bw F ⟨oL, sl, e1, e3⟩ (fun b o e n => k.obj b o (F.keep b o e) (hgX b o e) fun q => ((mem_fs hf).mp q).elim (ground_ne F e) n) (fun b o e hn => k.slo b o (F.keep b o e) (hgX b o e) hn) k.ctx
  exact ⟨_, T, F', Bw', fun b => cutBy_none, fun p hp hx => k.obj p.1 p.2 (N p hp).1 hx (news_fs Bw N hf hp)⟩

/-- the protected part of a ground -/
abbrev prot (g : Heap) (outer : List Env) : Heap := hideAll g (fs outer)
theorem prot_get {b : Addr} {o : Obj} (e : g.get? b = some o) (n : b ∉ fs outer) : (prot g outer).get? b = some o := hideAll_get _ e n

theorem backM (Bw : Below A₀ B outer g) (F : Fr g L h m) (N : News g L h news) (hf : env.frame = some L) (k : Moves (prot g outer) (fs (env :: outer)) h h') :
    ∃ g', Keeps (fs outer) [] g g' ∧ Fr g' L h' m ∧ Below A₀ B outer g' ∧ (∀ b, g.get? b = none → g'.get? b = none) ∧ ∀ p ∈ news, Sta p.2 → h'.get? p.1 = some p.2 := by
  obtain ⟨oL, es, ep, e1, e2, _⟩ := F.ns
  obtain ⟨sl, e3⟩ := k.slo L oL e1 (fun vs q => by rw [e2] at q; cases q)
  have st : (prot g outer).StaysIn h := fun b o e => F.keep b o (of_hideAll _ e)
  obtain ⟨T, F', Bw'⟩ := back0 (h' := h') Bw F ⟨oL, sl, e1, e3⟩ (fun b o e n => k.base st b o (prot_get e n)) (fun b o e hn => k.slo b o (F.keep b o e) hn) k.ctx
  exact ⟨_, T, F', Bw', fun b => cutBy_none, fun p hp hs => k.obj p.1 p.2 (N p hp).1 (news_fs Bw N hf hp) hs⟩
end

/-! E4 -/

/-- an exception under way in the frames l, and what becomes of it behind any step of its own -/
def Thrown (O : Heap) (l : List Env) (E : Value → Shared → Prop) (v : Value) (s : Shared) : Prop :=
  ∃ e c x, v = .ref e ∧ IsExc O s.heap e c x ∧ O.StaysIn s.heap ∧ s.heap.FunFrames O l ∧ ∀ h', Step O (fs l) s.heap h' e c x → HasTb h' e → E (.ref e) { s with heap := h' }

section
variable {M : Model} {A A' : Around} {E : Value → Shared → Prop} {s : Shared} {O : Heap} {env : Env} {outer : List Env} {L : Addr} {v : Value}

theorem Thrown.noted (hfr : A.frames = some (env :: outer)) (hf : env.frame = some L) (t : Thrown O (env :: outer) E v s) {E' : Value → Shared → Prop}
    (h : ∀ s', Thrown O (env :: outer) E v s' → (∀ e, v = .ref e → HasTb s'.heap e) → E' v s') : notedBy M A env E' v s := by
  obtain ⟨e, c, x, rfl, hx, hO, hF, k⟩ := t
  refine noted_k hfr hF hf hO hx fun h' st tb => h _ ⟨e, c, x, rfl, st.exc, st.mv.base hO, FunFrames.moves st.mv hF, fun h'' st' => k h'' (st.trans st')⟩ fun e' q => ?_
  cases q; exact tb
theorem Thrown.came (t : Thrown O (env :: outer) E v s) (tb : ∀ e, v = .ref e → HasTb s.heap e) : cameBackBy M A env (Thrown O (env :: outer) E) v s := by
  obtain ⟨e, c, x, rfl, hx, hO, hF, k⟩ := t
  exact came_k (S := fs (env :: outer)) hx (tb e rfl) fun h' st tb => ⟨e, c, x, rfl, st.exc, st.mv.base hO, FunFrames.moves st.mv hF, fun h'' st' => k h'' (st.trans st')⟩
theorem Thrown.passesAt (hfr : A'.frames = some (env :: outer)) (hf : env.frame = some L) : PassesOwnAt M A' A env (Thrown O (env :: outer) E) :=
  fun v s t => t.noted hfr hf fun s' t' tb => t'.came tb
theorem Thrown.passes (hfr : A.frames = some (env :: outer)) (hf : env.frame = some L) : PassesOwn M A env (Thrown O (env :: outer) E) :=
  fun v s t => t.noted hfr hf fun s' t' tb => t'.came tb
theorem Thrown.leaves (hfr : A.frames = some (env :: outer)) (hf : env.frame = some L) (t : Thrown O (env :: outer) E v s) : wpAny M A (leaving env v) (fun _ s' => E v s') E s := by
  obtain ⟨e, c, x, rfl, hx, hO, hF, k⟩ := t
  exact leaving_k hfr hF hf hO hx fun h' st tb => k h' st tb
theorem Thrown.mono {E' : Value → Shared → Prop} (t : Thrown O (env :: outer) E v s) (h : ∀ v s, E v s → E' v s) : Thrown O (env :: outer) E' v s := by
  obtain ⟨e, c, x, r1, hx, hO, hF, k⟩ := t
  exact ⟨e, c, x, r1, hx, hO, hF, fun h' st tb => h _ _ (k h' st tb)⟩
end

section
variable {prog : Program} {w : World} {A : Around} {E : Value → Shared → Prop} {s : Shared} {B : Heap} {outer : List Env} {Q : Value → Shared → Prop}
  {name qual : Str} {params : Arguments} {body : List Stmt} {scope : Scope} {cl : List (Str × Addr)} {dV kV doc pm cdv ct : Value} {an : Option Addr} {fo : Obj} {f : Addr} {vals : List Value} {binds : List (Str × Value)}

/-- the addresses that a call may turn, and what lies there -/
def Open (B : Heap) (outer : List Env) (h : Heap) (Xs : List (Addr × Obj)) : Prop := ∀ p ∈ Xs, h.get? p.1 = some p.2 ∧ B.get? p.1 = none ∧ p.1 ∉ fs outer

theorem ground_of {h : Heap} {Xs : List (Addr × Obj)} (hst : A.frames = some outer) (hB : B.StaysIn h) (hff : h.FunFrames B outer) (hXs : Open B outer h Xs) : Below A B outer (hideAll h (Xs.map (·.1))) := by
  refine ⟨hst, fun b o e => hideAll_get _ (hB b o e) fun q => ?_, funFrames_hideAll hff fun env he b hb hf => ?_⟩
  · obtain ⟨p, hp, rfl⟩ := List.mem_map.mp q
    rw [(hXs p hp).2.1] at e; cases e
  · obtain ⟨p, hp, rfl⟩ := List.mem_map.mp hb
    exact (hXs p hp).2.2 (List.mem_filterMap.mpr ⟨env, he, hf⟩)

/-- into a def without cells of its own -/
theorem enter_k (Xs : List (Addr × Obj)) (hst : A.frames = some outer) (hB : B.StaysIn s.heap) (hff : s.heap.FunFrames B outer) (hXs : Open B outer s.heap Xs) (hlim : B.NoLimit)
    (ho : s.heap.get? f = some fo) (hd : fo.data = .func (fnX name qual params body scope cl dV kV doc pm an cdv ct)) (hcd : s.heap.CodeRec cdv qual) (hroom : A.depth < recursionLimit)
    (hbind : BindsTo s (fnX name qual params body scope cl dV kV doc pm an cdv ct) ⟨vals, []⟩ binds) (hloc : ∀ y ∈ binds, scope.names.lookup y.1 = some .local)
    (h : ∀ g L h₁, g = hideAll s.heap (Xs.map (·.1)) → L = s.heap.objs.size → Fr g L h₁ (fun y => binds.reverse.lookup y) → News g L h₁ Xs → Below A B outer g →
      wpAny (model prog w) (A.deeper (envX qual scope L f cdv cl)) (execs body (envX qual scope L f cdv cl)) (fun fl s' => Q (match fl with | .ret v => v | _ => .none) s')
        (Thrown (prot g outer) (envX qual scope L f cdv cl :: outer) E) { s with heap := h₁, toks := s.toks + binds.length })
    (hcell : ∀ x ∈ scope.names, x.2 ≠ .cell) (hco : scope.isCoroutine = false := by rfl) (hgen : scope.isGenerator = false := by rfl) (hk : scope.kind = .function := by rfl) : wpAny (model prog w) A (call (.ref f) vals) Q E s := by
  refine wpAny_call ?_
  refine codeAny_call_def (fd := fnX name qual params body scope cl dV kV doc pm an cdv ct) (body := body) (binds := binds) hroom ho hd (hlim.keeps hB) hcd rfl hbind hcell hloc (fun h₁ hns hk₁ => ?_) hco hgen hk
  refine wpAny_mono (h _ s.heap.objs.size h₁ rfl rfl ⟨hns, fun b o e => hk₁ b o (of_hideAll _ e), Nat.le_of_eq (hideAll_size _ _)⟩
    (fun p hp => ⟨hk₁ _ _ (hXs p hp).1, Nat.ne_of_lt (Heap.lt_size (hXs p hp).1), hideAll_none _ (List.mem_map_of_mem hp)⟩) (ground_of hst hB hff hXs)) (fun _ _ q => q) fun v s' t => ?_
  exact wpAny_mono (t.leaves (Around.frames_deeper hst) rfl) (fun _ _ q => q) fun _ _ q => q

/-- into a def with cells of its own -/
theorem enterC_k (Xs : List (Addr × Obj)) (hst : A.frames = some outer) (hB : B.StaysIn s.heap) (hff : s.heap.FunFrames B outer) (hXs : Open B outer s.heap Xs) (hlim : B.NoLimit)
    (ho : s.heap.get? f = some fo) (hd : fo.data = .func (fnX name qual params body scope [] dV kV doc pm an cdv ct)) (hcd : s.heap.CodeRec cdv qual) (hroom : A.depth < recursionLimit)
    (hbind : BindsTo s (fnX name qual params body scope [] dV kV doc pm an cdv ct) ⟨vals, []⟩ binds)
    (hkind : (binds.all fun y => scope.names.lookup y.1 == some .local || scope.names.lookup y.1 == some .cell) = true) (hnd : ((cellsFrom 0 scope.names []).map (·.1)).Nodup)
    (h : ∀ g L h₁ tk cells, g = hideAll s.heap (Xs.map (·.1)) → L = s.heap.objs.size → Fr g L h₁ (bindL (envOfC qual scope L f cdv).kindOf binds fun _ => none) → News g L h₁ (cells ++ Xs) →
      CellsAre (bindC (envOfC qual scope L f cdv).kindOf binds fun _ => none) (cellsFrom (L + 1) scope.names []) cells → Below A B outer g →
      wpAny (model prog w) (A.deeper (envOfC qual scope L f cdv)) (execs body (envOfC qual scope L f cdv)) (fun fl s' => Q (match fl with | .ret v => v | _ => .none) s')
        (Thrown (prot g outer) (envOfC qual scope L f cdv :: outer) E) { s with heap := h₁, toks := tk })
    (hco : scope.isCoroutine = false := by rfl) (hgen : scope.isGenerator = false := by rfl) (hk : scope.kind = .function := by rfl) : wpAny (model prog w) A (call (.ref f) vals) Q E s := by
  refine wpAny_call ?_
  refine codeAny_call_function hroom ho hd hco hgen rfl hcd (hbind _ _ _ _ ?_)
  refine wpAny_newFunctionEnv_cells hk (kindsX hkind _) fun env' he s' x => ?_
  subst he
  refine ⟨(hlim.keeps hB).keeps x.toInCall.keep, codeAny_func ?_⟩
  obtain ⟨h₁, tk, rfl, _⟩ := x.done
  have hk₁ := x.toInCall.keep
  obtain ⟨cells, NC, Y⟩ := Cl.news (h₀ := s.heap) (Nat.le_refl _) fun n c hm => ⟨x.cell n c (lookup_of_mem_nodup (cellsFrom_names scope.names 0 (s.heap.objs.size + 1) [] [] rfl ▸ hnd) hm), x.above n c hm⟩
  refine wpAny_mono (h _ s.heap.objs.size h₁ tk cells rfl rfl ⟨x.toInCall.ns, fun b o e => hk₁ b o (of_hideAll _ e), Nat.le_of_eq (hideAll_size _ _)⟩ (fun p hp => ?_) Y (ground_of hst hB hff hXs)) (fun _ _ q => q) fun v s' t => ?_
  · rcases List.mem_append.mp hp with hp | hp
    · refine ⟨(NC p hp).1, (NC p hp).2.1, ?_⟩
      cases q : (hideAll s.heap (Xs.map (·.1))).get? p.1 with
      | none => rfl
      | some o => have := of_hideAll _ q; rw [(NC p hp).2.2] at this; cases this
    · exact ⟨hk₁ _ _ (hXs p hp).1, Nat.ne_of_lt (Heap.lt_size (hXs p hp).1), hideAll_none _ (List.mem_map_of_mem hp)⟩
  · exact wpAny_mono (t.leaves (Around.frames_deeper hst) rfl) (fun _ _ q => q) fun _ _ q => q
end

section
variable {A : Around} {B h₀ g g' h' : Heap} {outer : List Env} {env : Env} {L : Addr} {m : Str → Option Value} {Xs : List (Addr × Obj)}

/-- what lies at X is no exception, and what was no record is none -/
def Tame (h₀ h' : Heap) (Xs : List (Addr × Obj)) : Prop := ∀ p ∈ Xs, ¬ ExC p.2.cls ∧ ((∀ vs, p.2.data ≠ .fields vs) → ∃ o', h'.get? p.1 = some o' ∧ ∀ vs, o'.data ≠ .fields vs)

theorem exit_k (hXs : Open B outer h₀ Xs) (hg : g = hideAll h₀ (Xs.map (·.1))) (kp : Keeps (fs outer) [] g g') (keep : ∀ b o, g'.get? b = some o → b ∉ fs outer → h'.get? b = some o)
    (sl : ∀ b o, g'.get? b = some o → (∀ vs, o.data ≠ .fields vs) → ∃ s, h'.get? b = some { o with slots := s }) (cx : ∀ e x, HasCtx g' e x → HasCtx h' e x) (hT : Tame h₀ h' Xs) : Keeps (fs outer) (Xs.map (·.1)) h₀ h' := by
  subst hg
  have at_ : ∀ b o, h₀.get? b = some o → b ∈ Xs.map (·.1) → ∃ p ∈ Xs, p.1 = b ∧ p.2 = o := fun b o e q => by
    obtain ⟨p, hp, rfl⟩ := List.mem_map.mp q
    exact ⟨p, hp, rfl, Option.some.inj ((hXs p hp).1.symm.trans e)⟩
  refine ⟨fun b o e n1 n2 => keep b o (kp.obj b o (hideAll_get _ e n1) (fun q => nomatch q) n2) n2, fun b o e n1 hn => ?_, fun b o e hn => ?_, fun e x ⟨o, vs, q, q1, r⟩ => ?_⟩
  · obtain ⟨s1, e1⟩ := kp.slo b o (hideAll_get _ e n1) (fun q => nomatch q) hn
    obtain ⟨s2, e2⟩ := sl b _ e1 hn
    exact ⟨s2, e2⟩
  · by_cases n1 : b ∈ Xs.map (·.1)
    · obtain ⟨p, hp, rfl, rfl⟩ := at_ b o e n1
      exact (hT p hp).2 hn
    · obtain ⟨o1, e1, n1'⟩ := kp.nf b o (hideAll_get _ e n1) hn
      obtain ⟨s2, e2⟩ := sl b _ e1 n1'
      exact ⟨_, e2, n1'⟩
  · by_cases n1 : e ∈ Xs.map (·.1)
    · obtain ⟨p, hp, rfl, rfl⟩ := at_ e o q n1
      exact absurd q1 (hT p hp).1
    · exact cx e x (kp.ctx e x ⟨o, vs, hideAll_get _ q n1, q1, r⟩)

/-- the end of a call that comes back -/
theorem exitR_k (hXs : Open B outer h₀ Xs) (hg : g = hideAll h₀ (Xs.map (·.1))) (kp : Keeps (fs outer) [] g g') (F : Fr g' L h' m) (hT : Tame h₀ h' Xs) : Keeps (fs outer) (Xs.map (·.1)) h₀ h' :=
  exit_k hXs hg kp (fun b o e _ => F.keep b o e) (fun b o e _ => ⟨o.slots, F.keep b o e⟩) (fun e x q => q.of_keep F.keep) hT

/-- the old things that are protected: where a call's exception is new -/
abbrev old (h : Heap) (X : List Addr) (outer : List Env) : Heap := prot (hideAll h X) outer

/-- what a call leaves that ends with an exception -/
structure Raised (outer : List Env) (X : List Addr) (h h' : Heap) (e : Addr) (c : String) : Prop where
  keeps : Keeps (fs outer) X h h'
  exc : ∃ x n, IsExc (old h X outer) h' e (.type c) x ∧ ChainOk h' n x
  tb : HasTb h' e

theorem old_mono {hc : Heap} {Xn : List Addr} (kp : Keeps (fs outer) [] g g') (F : Fr g' L hc m) (hf : env.frame = some L) (hX : ∀ x ∈ Xn, g'.get? x = none) :
    ∀ b, (old hc Xn (env :: outer)).get? b = none → (prot g outer).get? b = none := fun b e => by
  cases q : (prot g outer).get? b with
  | none => rfl
  | some o =>
    have q1 := of_hideAll _ q
    have nf : b ∉ fs outer := fun hm => by
      have : (prot g outer).get? b = none := hideAll_none _ hm
      rw [q] at this; cases this
    have q2 := kp.obj b o q1 (fun z => nomatch z) nf
    have : (old hc Xn (env :: outer)).get? b = some o := prot_get (hideAll_get _ (F.keep b o q2) fun hm => by
      rw [hX b hm] at q2; cases q2) fun hm => ((mem_fs hf).mp hm).elim (ground_ne F q2) nf
    rw [e] at this; cases this

theorem Tame.moves {B' : Heap} {S : List Addr} {h'' : Heap} (k : Moves B' S h' h'') (t : Tame h₀ h' Xs) : Tame h₀ h'' Xs := fun p hp => ⟨(t p hp).1, fun hn => by
  obtain ⟨o', q, n⟩ := (t p hp).2 hn
  obtain ⟨sl, q'⟩ := k.slo _ _ q n
  exact ⟨_, q', n⟩⟩

/-- an exception arises in a body: by a raise (O₁ is the protected ground) or by a call (O₁ is the call's old heap) -/
theorem thrown_k {O₁ : Heap} {E : Value → Shared → Prop} {s' : Shared} {e : Addr} {c : String} {x : Value} {n : Nat} (hXs : Open B outer h₀ Xs) (hg : g = hideAll h₀ (Xs.map (·.1))) (kp : Keeps (fs outer) [] g g') (F : Fr g' L s'.heap m) (Bw : Below A B outer g')
    (hf : env.frame = some L) (hk : env.scope.kind = .function) (hx : IsExc O₁ s'.heap e (.type c) x) (hO : ∀ b, O₁.get? b = none → (prot g outer).get? b = none) (hc : ChainOk s'.heap n x) (hT : Tame h₀ s'.heap Xs)
    (hE : ∀ h'', Raised outer (Xs.map (·.1)) h₀ h'' e c → Moves (prot g outer) (fs (env :: outer)) s'.heap h'' → E (.ref e) { s' with heap := h'' }) :
    Thrown (prot g outer) (env :: outer) E (.ref e) s' := by
  have st : (prot g outer).StaysIn s'.heap := fun b o q => by
    have nf : b ∉ fs outer := fun hm => by
      have : (prot g outer).get? b = none := hideAll_none _ hm
      rw [q] at this; cases this
    exact F.keep b o (kp.obj b o (of_hideAll _ q) (fun z => nomatch z) nf)
  refine ⟨e, _, x, rfl, hx.base hO, st, ?_, fun h'' sp tb => ?_⟩
  · refine .cons (by rw [hk]; decide) hf F.ns ?_ (FunFrames.base (Bw.frames.of_keeps fun b o q _ => ⟨o, F.keep b o q, rfl⟩) fun b hb => hideAll_none _ hb)
    cases q : (prot g outer).get? L with
    | none => rfl
    | some o =>
      have q1 := of_hideAll _ q
      have nf : L ∉ fs outer := fun hm => by
        have : (prot g outer).get? L = none := hideAll_none _ hm
        rw [q] at this; cases this
      exact absurd rfl (ground_ne F (kp.obj L o q1 (fun z => nomatch z) nf))
  · subst hg
    refine hE h'' ⟨exit_k hXs rfl (.refl _) (fun b o q nf => sp.mv.base st b o (prot_get q nf)) (fun b o q hn => ?_) (fun e x q => sp.mv.ctx e x ((kp.ctx e x q).of_keep F.keep)) (hT.moves sp.mv), ⟨x, n, sp.exc, hc.keeps sp.mv.ctx⟩, tb⟩ sp.mv
    obtain ⟨s1, e1⟩ := kp.slo b o q (fun z => nomatch z) hn
    obtain ⟨s2, e2⟩ := sp.mv.slo b _ (F.keep _ _ e1) hn
    exact ⟨s2, e2⟩

/-- .. by a call of the body's, from the heap hc on -/
theorem thrown_call {hc : Heap} {news : List (Addr × Obj)} {Xn : List Addr} {E : Value → Shared → Prop} {s' : Shared} {e : Addr} {c : String} (hXs : Open B outer h₀ Xs) (hg : g = hideAll h₀ (Xs.map (·.1))) (kp : Keeps (fs outer) [] g g') (F : Fr g' L hc m) (N : News g' L hc news) (Bw : Below A B outer g')
    (hf : env.frame = some L) (hk : env.scope.kind = .function) (hX : ∀ x ∈ Xn, x ∈ news.map (·.1)) (R : Raised (env :: outer) Xn hc s'.heap e c) (hT : Tame h₀ s'.heap Xs)
    (hE : ∀ h'', Raised outer (Xs.map (·.1)) h₀ h'' e c → Moves (prot g outer) (fs (env :: outer)) s'.heap h'' → E (.ref e) { s' with heap := h'' }) :
    Thrown (prot g outer) (env :: outer) E (.ref e) s' := by
  obtain ⟨g₂, k₂, F₂, Bw₂, n₂, _⟩ := back Bw F N hf hX R.keeps
  obtain ⟨x, n, hx, hc'⟩ := R.exc
  have hn : ∀ x ∈ Xn, g'.get? x = none := fun x hx => by
    obtain ⟨p, hp, rfl⟩ := List.mem_map.mp (hX x hx)
    exact (N p hp).2.2
  exact thrown_k hXs hg (kp.trans k₂) F₂ Bw₂ hf hk hx (old_mono kp F hf hn) hc' hT hE
end

/-! E5 -/
section
variable {prog : Program} {w : World} {A : Around} {E : Value → Shared → Prop} {s : Shared} {O : Heap} {env : Env} {outer : List Env} {L : Addr}

theorem notTuple_SE : isSubtype (.type ((Manifest.find? "SystemExit").elim "type" fun x => x.metatype)) (.type "tuple") = pure false := by
  have : (Manifest.find? "SystemExit").elim "type" (fun x => x.metatype) = "type" := by decide +kernel
  rw [this, isSubtype_type]; kernel_rfl
theorem sub_SE (X : String) (h : ExC (.type X)) : isSubtype (.type X) (.type "SystemExit") = pure (decide (X = "SystemExit")) := by
  rcases h with h | h | h <;> (obtain rfl := Value.type.inj h; rw [isSubtype_type]; kernel_rfl)
theorem Pass_ {pp : Pos} {Q : Flow → Shared → Prop} (h : Q .next s) : wpAny (model prog w) A (execs [.Pass pp] env) Q E s := by
  show wpAny (model prog w) A (do match ← (do standAt pp; pure .next : Sem Flow) with | .next => execs [] env | f => pure f) Q E s
  exact wpAny_bind (wpAny_bind (wpAny_standAt (wpAny_pure (wpAny_pure h))))

/-- where the last part of the try stands behind an exception of the class X -/
structure Fin_ (prog : Program) (w : World) (A : Around) (O : Heap) (env : Env) (outer : List Env) (fin : List Stmt) (Q : Flow → Shared → Prop) (E : Value → Shared → Prop) (v : Value) (s : Shared) (e : Addr) (X : String) (x : Value) (n : Nat) : Prop where
  isE : v = .ref e
  exc : IsExc O s.heap e (.type X) x
  chain : ChainOk s.heap n x
  stays : O.StaysIn s.heap
  frames : s.heap.FunFrames O (env :: outer)
  exit_ : X = "SystemExit" → ∀ h', Step O (fs (env :: outer)) s.heap h' e (.type X) x → wpAny (model prog w) A (execs fin env) (fun g s' => g = .next ∧ Q .next s') (Thrown O (env :: outer) E) { s with heap := h' }
  other : X ≠ "SystemExit" → ∀ h', Step O (fs (env :: outer)) s.heap h' e (.type X) x → HasTb h' e → wpAny (model prog w) (A.mark (some (.ref e))) (execs fin env) (fun g s' => g = .next ∧ Thrown O (env :: outer) E (.ref e) s' ∧ HasTb s'.heap e) (Thrown O (env :: outer) E) { s with heap := h' }

theorem TryFin_k {body : List Stmt} {t : Expr} {pp hp pos : Pos} {f₀ : Stmt} {Q : Flow → Shared → Prop} (hfr : A.frames = some (env :: outer)) (hf : env.frame = some L)
    (hname : ∀ (A' : Around) (E' : Value → Shared → Prop) (s' : Shared), O.StaysIn s'.heap → wpAny (model prog w) A' (eval t env) (fun v s₂ => v = .type "SystemExit" ∧ s₂ = s') E' s')
    (hb : wpAny (model prog w) A (execs body env) (fun f s₁ => f = .next ∧ wpAny (model prog w) A (execs [f₀] env) (fun g s' => g = .next ∧ Q .next s') (Thrown O (env :: outer) E) s₁)
      (fun v s₁ => ∃ e X x n, Fin_ prog w A O env outer [f₀] Q E v s₁ e X x n) s) :
    wpAny (model prog w) A (exec (.Try body [.ExceptHandler (some t) none [.Pass pp] hp] [] [f₀] pos) env) Q (Thrown O (env :: outer) E) s := by
  have hP := Thrown.passes (M := model prog w) (O := O) (E := E) hfr hf
  have fin : ∀ s₁, wpAny (model prog w) A (execs [f₀] env) (fun g s' => g = .next ∧ Q .next s') (Thrown O (env :: outer) E) s₁ →
      wpAny (model prog w) A (execs [f₀] env) (fun g s' => match g with | .next => Q .next s' | g => Q g s') (notedBy (model prog w) A env (cameBackBy (model prog w) A env (Thrown O (env :: outer) E))) s₁ := fun s₁ h =>
    wpAny_mono h (fun g s' q => by obtain ⟨rfl, q⟩ := q; exact q) hP
  refine wpAny_Try_except_finally (wpAny_mono hb (fun f s₁ q => ?_) fun v s₁ q => ?_)
  · obtain ⟨rfl, q⟩ := q
    exact wpAny_pure (fin s₁ q)
  · obtain ⟨e, X, x, n, H⟩ := q
    obtain rfl := H.isE
    refine noteFrame_k hfr H.frames hf H.stays H.exc fun h₁ p₁ t₁ => ?_
    refine setFlight_k (S := fs (env :: outer)) p₁.exc fun h₂ p₂ => ?_
    have p₂' := p₁.trans p₂
    have t₂ := p₂.tb t₁
    have hX : ExC (.type X) := by obtain ⟨_, _, _, _, _, q, _⟩ := H.exc; exact q
    have hT : ({ s₁ with heap := h₂ } : Shared).TypeIs (.ref e) X := by obtain ⟨o, _, _, q1, q2, _⟩ := p₂'.exc; exact ⟨o, q1, q2⟩
    refine wpAny_handleBy_builtin (X := X) (T := "SystemExit") (b := decide (X = "SystemExit")) SE.subExc notTuple_SE (sub_SE X hX) (wpAny_mono (hname _ _ _ (p₂'.mv.base H.stays)) (fun v s₂ q => ?_) fun _ _ q => q)
    obtain ⟨rfl, rfl⟩ := q
    refine ⟨rfl, hT, ?_⟩
    by_cases hS : X = "SystemExit"
    · rw [if_pos (by simpa using hS)]
      refine setFlight_k (S := fs (env :: outer)) p₂'.exc fun h₃ p₃ => ?_
      exact Pass_ (fin _ (H.exit_ hS h₃ (p₂'.trans p₃)))
    · rw [if_neg (by simpa using hS)]
      refine wpAny_handleBy_nil (passOn_k (S := fs (env :: outer)) p₂'.exc t₂ fun h₃ p₃ t₃ => ?_)
      have p₃' := p₂'.trans p₃
      refine ⟨(by intro q; cases q), ?_⟩
      refine noteFrame_k hfr (FunFrames.moves p₃'.mv H.frames) hf (p₃'.mv.base H.stays) p₃'.exc fun h₄ p₄ t₄ => ?_
      refine setFlight_k (S := fs (env :: outer)) p₄.exc fun h₅ p₅ => ?_
      have p₅' := (p₃'.trans p₄).trans p₅
      refine wpAny_mono (H.other hS h₅ p₅' (p₅.tb t₄)) (fun g s' q => ?_) (Thrown.passesAt (by exact hfr) hf)
      obtain ⟨rfl, ⟨e', c', x', q1, q2, q3, q4, q5⟩, q6⟩ := q
      cases q1
      exact passOn_k (S := fs (env :: outer)) q2 q6 fun h₆ p₆ t₆ => ⟨e, c', x', rfl, p₆.exc, p₆.mv.base q3, FunFrames.moves p₆.mv q4, fun h' sp tb => q5 h' (p₆.trans sp) tb⟩
end

/-! F1 -/

structure Base (w : World) (p : Program) (loose : List Str) (mean : ExcName → Option Value) (mg mb : Str → Option Value) (B : Heap) : Prop where
  X : (hd.heap_39 w.params).In B
  T : Top p loose mean mg mb B
  C : CodeHd B 76 72

def excOf (k : Int) : String := if k = 1 then "SystemExit" else if k = 2 then "KeyError" else "ValueError"

theorem Fr.on {g h h' : Heap} {L : Addr} {m : Str → Option Value} (F : Fr g L h m) (k : ∀ b o, h.get? b = some o → h'.get? b = some o) : Fr g L h' m := ⟨F.ns.keeps k, fun b o e => k b o (F.keep b o e), F.above⟩
theorem Tame.nil {h h' : Heap} : Tame h h' [] := fun _ h => nomatch h

section
variable {prog : Program} {w : World} {p : Program} {loose : List Str} {mean : ExcName → Option Value} {mg mb : Str → Option Value} {B : Heap} {A : Around} {outer : List Env} {s : Shared} {Q E : Value → Shared → Prop}

theorem raise_spec (b : Base w p loose mean mg mb B) (hst : A.frames = some outer) (hB : B.StaysIn s.heap) (hff : s.heap.FunFrames B outer) (hh : HandOk s.heap A.handled) (hroom : A.depth + 2 < recursionLimit) (hun : A.units + 40 < cLine) {k : Int} {tk : Tok} (hk : 0 ≤ k ∧ k ≤ 3)
    (ret : k = 0 → ∀ h' tk', (∀ b o, s.heap.get? b = some o → h'.get? b = some o) → Q .none { s with heap := h', toks := tk' })
    (exc : k ≠ 0 → ∀ h' tk' e, Raised outer [] s.heap h' e (excOf k) → E (.ref e) { s with heap := h', toks := tk' }) :
    wpAny (model prog w) A (call (.ref 63) [.int k tk]) Q E s := by
  have ff : PySem.Challenge.rw_kl0226_01 = PySem.Challenge.rw_kl0226_01 ∧ hd.heap_39 = hd.heap_39 := by
    k_fill
    exact ⟨rfl, rfl⟩
  clear ff
  obtain ⟨hd, dp, fr, gd, un⟩ := A
  cases hst
  have hop : Open B outer s.heap [] := fun _ h => nomatch h
  dsimp only at hh hroom hun
  have X₀ := b.X.keeps hB
  refine' enter_k (B := B) (binds := [(Str.ofString "sort_of", .int k tk)]) [] rfl hB hff hop b.T.nolimit ?k1 ?k2 ?k3 ?k4 ?k5 ?k6 ?_ ?k7 ?k8 ?k9 ?k10
  case k1 => exact X₀ _ _ (by k_is)
  case k2 => exact rfl
  case k3 => exact codeRec_of X₀ (by k_is)
  case k4 => exact Nat.lt_of_le_of_lt (Nat.le_add_right _ _) hroom
  case k5 => exact BindsTo.of_eq rfl
  case k6 => exact locs rfl
  case k7 => decide
  case k8 => exact rfl
  case k9 => exact rfl
  case k10 => exact rfl
  intro g L h₁ hg hL F N Bw
  have X' := b.X.keeps Bw.stays
  have T' := b.T.keeps Bw.stays
  have hh₁ : HandOk h₁ hd := hh.keeps fun e x q => (show HasCtx g e x from hg ▸ q).of_keep F.keep
  change wpAny _ _ _ _ _ _
  k_fold
  k_steps
  · refine Raise_k (B := prot g outer) ok_SystemExit (fun b o e => F.keep b o (of_hideAll _ e)) hh₁ (name_B F X' (topRead_of T') (by k_is) (by boot_by_name) (by decide) ⟨rfl, rfl⟩) fun h' e x n kp hn hx hc => ?_
    refine thrown_k hop hg (.refl _) (Fr.on F kp) Bw rfl rfl hx (fun _ q => q) hc .nil fun h'' q1 _ => exc (by omega) h'' _ e ?_
    rw [show excOf k = "SystemExit" by unfold excOf; rw [if_pos (by omega)]]
    exact q1
  · refine Raise_k (B := prot g outer) ok_KeyError (fun b o e => F.keep b o (of_hideAll _ e)) hh₁ (name_B F X' (topRead_of T') (by k_is) (by boot_by_name) (by decide) ⟨rfl, rfl⟩) fun h' e x n kp hn hx hc => ?_
    refine thrown_k hop hg (.refl _) (Fr.on F kp) Bw rfl rfl hx (fun _ q => q) hc .nil fun h'' q1 _ => exc (by omega) h'' _ e ?_
    rw [show excOf k = "KeyError" by unfold excOf; rw [if_neg (by omega), if_pos (by omega)]]
    exact q1
  · refine Raise_k (B := prot g outer) ok_ValueError (fun b o e => F.keep b o (of_hideAll _ e)) hh₁ (name_B F X' (topRead_of T') (by k_is) (by boot_by_name) (by decide) ⟨rfl, rfl⟩) fun h' e x n kp hn hx hc => ?_
    refine thrown_k hop hg (.refl _) (Fr.on F kp) Bw rfl rfl hx (fun _ q => q) hc .nil fun h'' q1 _ => exc (by omega) h'' _ e ?_
    rw [show excOf k = "ValueError" by unfold excOf; rw [if_neg (by omega), if_neg (by omega)]]
    exact q1
  · exact ret (by omega) h₁ _ fun b o e => F.keep b o (hg ▸ e)
end

/-! F2 -/

/-- what the third place of an entry says -/
inductive EV where
  | none
  | int (i : Int)
  | str (s : Str)
  deriving DecidableEq
def EV.Is : EV → Value → Prop
  | .none, v => v = .none
  | .int i, v => ∃ t, v = .int i t
  | .str s, v => ∃ t, v = .str s t
structure Ent where
  k : Int
  n : Int
  x : EV
  deriving DecidableEq
def EntIs (h : Heap) (v : Value) (e : Ent) : Prop := ∃ t o nn t1 t2 x, v = .ref t ∧ h.get? t = some o ∧ o.cls = .type "tuple" ∧ o.data = .seq #[.int e.k t1, .int e.n t2, x] nn ∧ e.x.Is x
def Ents (h : Heap) : List Value → List Ent → Prop
  | [], [] => True
  | v :: vs, e :: es => EntIs h v e ∧ Ents h vs es
  | _, _ => False
def LogIs (h : Heap) (lg : Addr) (es : List Ent) : Prop := ∃ its n, h.get? lg = some (listOf its n) ∧ Ents h its.toList es

theorem EntIs.slo {h h' : Heap} {v : Value} {e : Ent} (k : ∀ b o, h.get? b = some o → o.cls = .type "tuple" → (∀ vs, o.data ≠ .fields vs) → ∃ sl, h'.get? b = some { o with slots := sl }) : EntIs h v e → EntIs h' v e := by
  rintro ⟨t, o, nn, t1, t2, x, rfl, ho, hc, hd, hx⟩
  obtain ⟨sl, q⟩ := k t o ho hc (fun vs q => by rw [hd] at q; cases q)
  exact ⟨t, _, nn, t1, t2, x, rfl, q, hc, hd, hx⟩
theorem Ents.imp {h h' : Heap} (k : ∀ v e, EntIs h v e → EntIs h' v e) : ∀ {vs : List Value} {es : List Ent}, Ents h vs es → Ents h' vs es
  | [], [], _ => trivial
  | _ :: _, _ :: _, q => ⟨k _ _ q.1, Ents.imp k q.2⟩
  | [], _ :: _, q => q.elim
  | _ :: _, [], q => q.elim
theorem Ents.snoc {h : Heap} {v : Value} {e : Ent} (q : EntIs h v e) : ∀ {vs : List Value} {es : List Ent}, Ents h vs es → Ents h (vs ++ [v]) (es ++ [e])
  | [], [], _ => ⟨q, trivial⟩
  | _ :: _, _ :: _, r => ⟨r.1, Ents.snoc q r.2⟩
  | [], _ :: _, r => r.elim
  | _ :: _, [], r => r.elim
theorem Ents.length {h : Heap} : ∀ {vs : List Value} {es : List Ent}, Ents h vs es → vs.length = es.length
  | [], [], _ => rfl
  | _ :: _, _ :: _, r => by rw [List.length_cons, List.length_cons, Ents.length r.2]
  | [], _ :: _, r => r.elim
  | _ :: _, [], r => r.elim
theorem EntIs.keeps {S X : List Addr} {h h' : Heap} {v : Value} {e : Ent} (k : Keeps S X h h') (hX : ∀ x ∈ X, ∀ o, h.get? x = some o → o.cls ≠ .type "tuple") : EntIs h v e → EntIs h' v e :=
  EntIs.slo fun b o q hc hn => k.slo b o q (fun m => hX b m o q hc) hn
theorem EntIs.moves {B : Heap} {S : List Addr} {h h' : Heap} {v : Value} {e : Ent} (k : Moves B S h h') : EntIs h v e → EntIs h' v e := EntIs.slo fun b o q _ hn => k.slo b o q hn
theorem LogIs.moves {B : Heap} {S : List Addr} {h h' : Heap} {lg : Addr} {es : List Ent} (k : Moves B S h h') (hl : lg ∉ S) : LogIs h lg es → LogIs h' lg es
  | ⟨its, n, q, r⟩ => ⟨its, n, k.obj _ _ q hl (fun vs q => by cases q), r.imp fun _ _ => EntIs.moves k⟩
theorem LogIs.one {S : List Addr} {h h' : Heap} {lg t : Addr} {its : Array Value} {n n' : Nat} {es : List Ent} {e : Ent} {t1 t2 : Tok} {x : Value} {nn : Nat} (k : Keeps S [lg] h h') (hlo : h.get? lg = some (listOf its n)) (hit : Ents h its.toList es)
    (hl : h'.get? lg = some (listOf (its.push (.ref t)) n')) (ht : h'.get? t = some { cls := .type "tuple", data := .seq #[.int e.k t1, .int e.n t2, x] nn }) (hx : e.x.Is x) : LogIs h' lg (es ++ [e]) := by
  refine ⟨_, n', hl, ?_⟩
  rw [Array.toList_push]
  exact Ents.snoc ⟨t, _, nn, t1, t2, x, rfl, ht, rfl, rfl, hx⟩ (hit.imp fun v e => EntIs.keeps k fun y hy o q => by cases List.mem_singleton.mp hy; rw [hlo] at q; cases q; exact fun z => absurd (Value.type.inj z) (by decide))
theorem its_fit {h : Heap} {its : Array Value} {es : List Ent} (q : Ents h its.toList es) (hes : es.length ≤ 100000) : its.size ≤ sizeLine := by
  have := q.length
  rw [Array.length_toList] at this
  have e : sizeLine = 16777216 := by decide
  omega

/-- a def that is made within the body of one of the text's own -/
def InDef (K : Frag) (a i : Nat) (nm : Str) (params : Arguments) (body : List Stmt) (scope : Scope) : Prop :=
  ∃ o fd stmts pos, K.lookup a = some o ∧ o.data = .func fd ∧ fd.body = .stmts stmts ∧ stmts[i]? = some (.FunctionDef nm params body [] none [] scope none nm pos)

theorem nameG {M : Model} {A : Around} {E : Value → Shared → Prop} {s : Shared} {g : Heap} {L a c : Addr} {m : Str → Option Value} {cn x : Str} {cs : Scope} {ccd v : Value} {cl : List (Str × Addr)} {pos : Pos} {Q : Value → Shared → Prop}
    (F : Fr g L s.heap m) (hc : cl.lookup x = some c) (hv : g.IsCell c (some v)) (h : Q v s)
    (hk : cs.kind = .function) (hx : (envX cn cs L a ccd cl).kindOf x = some .free) (hb : (x == ("__debug__" : Str)) = false) (hn : (x == ("__classdict__" : Str)) = false) :
    wpAny M A (eval (.Name x pos) (envX cn cs L a ccd cl)) Q E s :=
  have ⟨o, ho, hd⟩ := hv
  wpAny_Name (wpAny_loadName_free hk hx hc ⟨o, F.keep _ _ ho, hd⟩ h hn) hb

section
variable {prog : Program} {w : World} {p : Program} {loose : List Str} {mean : ExcName → Option Value} {mg mb : Str → Option Value} {B : Heap} {A A₀ : Around} {outer : List Env} {s : Shared} {Q E : Value → Shared → Prop}
  {g : Heap} {L : Addr} {m : Str → Option Value} {env : Env} {news : List (Addr × Obj)}

theorem news_moves {hc h' h'' B' : Heap} {Xn : List Addr} {q : Addr × Obj} (Bw : Below A₀ B outer g) (N : News g L hc news) (hf : env.frame = some L) (R : Keeps (fs (env :: outer)) Xn hc h') (mv : Moves B' (fs (env :: outer)) h' h'')
    (hq : q ∈ news) (hx : q.1 ∉ Xn) (hs : Sta q.2) : h''.get? q.1 = some q.2 :=
  mv.obj _ _ (R.obj _ _ (N q hq).1 hx (news_fs Bw N hf hq)) (news_fs Bw N hf hq) hs
theorem Sta.list {its : Array Value} {n : Nat} : Sta (listOf its n) := fun vs q => by cases q
theorem Sta.tuple {its : Array Value} {n : Nat} : Sta { cls := .type "tuple", data := .seq its n } := fun vs q => by cases q
theorem Tame.list {h₀ h' : Heap} {lg : Addr} {its its' : Array Value} {n n' : Nat} (q : h'.get? lg = some (listOf its' n')) : Tame h₀ h' [(lg, listOf its n)] := fun p hp => by
  cases List.mem_singleton.mp hp
  exact ⟨fun q => by rcases q with q | q | q <;> exact absurd (Value.type.inj q) (by decide), fun _ => ⟨_, q, fun vs q => by cases q⟩⟩

/-- a call of _law_raise in a walk -/
theorem raise_at (b : Base w p loose mean mg mb B) (Bw : Below A₀ B outer g) (F : Fr g L s.heap m) (N : News g L s.heap news) (hA : A.frames = some (env :: outer)) (hf : env.frame = some L) (hke : env.scope.kind = .function) (hh : HandOk g A.handled)
    (hroom : A.depth + 2 < recursionLimit) (hun : A.units + 40 < cLine) {k : Int} {tk : Tok} (hk : 0 ≤ k ∧ k ≤ 3)
    (ret : k = 0 → ∀ h' tk', Fr g L h' m → News g L h' news → Q .none { s with heap := h', toks := tk' })
    (exc : k ≠ 0 → ∀ h' tk' e, Fr g L s.heap m → News g L s.heap news → Raised (env :: outer) [] s.heap h' e (excOf k) → E (.ref e) { s with heap := h', toks := tk' }) :
    wpAny (model prog w) A (call (.ref 63) [.int k tk]) Q E s :=
  have P := pushX Bw F hf hke
  raise_spec b hA P.stays P.frames (hh.keeps fun e x q => q.of_keep F.keep) hroom hun hk (fun hk h' tk' kp => ret hk h' tk' (Fr.on F kp) fun q hq => ⟨kp _ _ (N q hq).1, (N q hq).2⟩) fun hk h' tk' e R => exc hk h' tk' e F N R
end

/-- no cell, no def, no code -/
def Odd (o : Obj) : Prop := (∀ v, o.data ≠ .cell v) ∧ (∀ fd, o.data ≠ .func fd) ∧ (∀ vs, o.data = .fields vs → ∀ q t, vs[1]? ≠ some (.str q t)) ∧ ¬ ExC o.cls
theorem Odd.list {its : Array Value} {n : Nat} : Odd (listOf its n) := ⟨fun _ q => (by cases q), fun _ q => (by cases q), fun _ q => (by cases q), fun q => by rcases q with q | q | q <;> exact absurd (Value.type.inj q) (by decide)⟩

/-- a closure that the i-th statement of _law_do has made -/
def FnC (w : World) (h : Heap) (f : Addr) (i : Nat) (cm : Str → Addr) (names : List Str) : Prop :=
  ∃ fo nm qual params body scope cl doc pm c' ctv, h.get? f = some fo ∧ fo.data = .func (fnX nm qual params body scope cl .none .none doc pm none (.ref c') ctv) ∧ h.CodeRec (.ref c') qual ∧ InDef (hd.heap_39 w.params) 77 i nm params body scope ∧
    ∀ x ∈ names, cl.lookup x = some (cm x)

structure NodeV where
  n : Int
  own : Int
  late : Int
  early : Int
  nl : Addr
  lg : Addr
  wide : Addr
  near : Addr
  fI : Addr
  fO : Addr
  fD : Addr
  fP : Addr
  fM : Addr

/-- a node's cells and closures -/
structure NodeAt (w : World) (h : Heap) (v : NodeV) (cm : Str → Addr) (tn to tl te : Tok) : Prop where
  log : h.IsCell (cm (Str.ofString "log")) (some (.ref v.lg))
  nodes : h.IsCell (cm (Str.ofString "nodes")) (some (.ref v.nl))
  number : h.IsCell (cm (Str.ofString "number")) (some (.int v.n tn))
  own : h.IsCell (cm (Str.ofString "own")) (some (.int v.own to))
  late : h.IsCell (cm (Str.ofString "late")) (some (.int v.late tl))
  early : h.IsCell (cm (Str.ofString "early")) (some (.int v.early te))
  wide : h.IsCell (cm (Str.ofString "wide")) (some (.ref v.wide))
  near : h.IsCell (cm (Str.ofString "near")) (some (.ref v.near))
  inside : h.IsCell (cm (Str.ofString "inside")) (some (.ref v.fI))
  inside_of : h.IsCell (cm (Str.ofString "inside_of")) (some (.ref v.fO))
  dumped : h.IsCell (cm (Str.ofString "dumped")) (some (.ref v.fD))
  printed : h.IsCell (cm (Str.ofString "printed")) (some (.ref v.fP))
  kI : FnC w h v.fI 2 cm [Str.ofString "log", Str.ofString "nodes", Str.ofString "number", Str.ofString "own"]
  kO : FnC w h v.fO 3 cm [Str.ofString "inside", Str.ofString "near", Str.ofString "wide"]
  kD : FnC w h v.fD 4 cm [Str.ofString "late", Str.ofString "log", Str.ofString "number"]
  kP : FnC w h v.fP 5 cm [Str.ofString "late", Str.ofString "log", Str.ofString "number"]
  kM : FnC w h v.fM 6 cm [Str.ofString "dumped", Str.ofString "early", Str.ofString "inside", Str.ofString "inside_of", Str.ofString "log", Str.ofString "number", Str.ofString "printed"]

theorem cell_slo {h h' : Heap} {a : Addr} {v : Option Value} (k : ∀ b o, h.get? b = some o → (∀ vs, o.data ≠ .fields vs) → (∃ v, o.data = .cell v) ∨ (∃ fd, o.data = .func fd) → ∃ sl, h'.get? b = some { o with slots := sl }) : h.IsCell a v → h'.IsCell a v := by
  rintro ⟨o, ho, hd⟩
  obtain ⟨sl, q⟩ := k a o ho (fun vs q => by rw [hd] at q; cases q) (.inl ⟨_, hd⟩)
  exact ⟨_, q, hd⟩
theorem FnC.imp {w : World} {h h' : Heap} {f : Addr} {i : Nat} {cm : Str → Addr} {names : List Str} (k : ∀ b o, h.get? b = some o → (∀ vs, o.data ≠ .fields vs) → (∃ v, o.data = .cell v) ∨ (∃ fd, o.data = .func fd) → ∃ sl, h'.get? b = some { o with slots := sl })
    (kc : ∀ c q, h.CodeRec c q → h'.CodeRec c q) : FnC w h f i cm names → FnC w h' f i cm names := by
  rintro ⟨fo, nm, qual, params, body, scope, cl, doc, pm, c', ctv, ho, hd, hc, r⟩
  obtain ⟨sl, q⟩ := k f fo ho (fun vs q => by rw [hd] at q; cases q) (.inr ⟨_, hd⟩)
  exact ⟨_, nm, qual, params, body, scope, cl, doc, pm, c', ctv, q, hd, kc _ _ hc, r⟩
theorem NodeAt.imp {w : World} {h h' : Heap} {v : NodeV} {cm : Str → Addr} {tn to tl te : Tok} (k : ∀ b o, h.get? b = some o → (∀ vs, o.data ≠ .fields vs) → (∃ v, o.data = .cell v) ∨ (∃ fd, o.data = .func fd) → ∃ sl, h'.get? b = some { o with slots := sl })
    (kc : ∀ c q, h.CodeRec c q → h'.CodeRec c q) (x : NodeAt w h v cm tn to tl te) : NodeAt w h' v cm tn to tl te :=
  ⟨cell_slo k x.log, cell_slo k x.nodes, cell_slo k x.number, cell_slo k x.own, cell_slo k x.late, cell_slo k x.early, cell_slo k x.wide, cell_slo k x.near, cell_slo k x.inside, cell_slo k x.inside_of, cell_slo k x.dumped, cell_slo k x.printed,
    x.kI.imp k kc, x.kO.imp k kc, x.kD.imp k kc, x.kP.imp k kc, x.kM.imp k kc⟩
theorem code_keeps {B h h' : Heap} {outer : List Env} {X : List Addr} (k : Keeps (fs outer) X h h') (ff : h.FunFrames B outer) (hX : ∀ x ∈ X, ∀ o, h.get? x = some o → Odd o) {c : Value} {q : Str} (r : h.CodeRec c q) : h'.CodeRec c q := by
  obtain ⟨a, o, vs, t, rfl, ho, hd, hv⟩ := r
  refine ⟨a, o, vs, t, rfl, k.obj a o ho (fun m => (hX a m o ho).2.2.1 vs hd q t hv) (fun m => ?_), hd, hv⟩
  obtain ⟨_, o', ho', hn⟩ := ff.mem m
  rw [ho] at ho'; cases ho'; exact hn _ hd
theorem NodeAt.keeps {w : World} {B h h' : Heap} {outer : List Env} {X : List Addr} {v : NodeV} {cm : Str → Addr} {tn to tl te : Tok} (k : Keeps (fs outer) X h h') (ff : h.FunFrames B outer) (hX : ∀ x ∈ X, ∀ o, h.get? x = some o → Odd o) (x : NodeAt w h v cm tn to tl te) : NodeAt w h' v cm tn to tl te :=
  x.imp (fun b o ho hn q => k.slo b o ho (fun m => q.elim (fun ⟨v, q⟩ => (hX b m o ho).1 v q) fun ⟨v, q⟩ => (hX b m o ho).2.1 v q) hn) fun _ _ r => code_keeps k ff hX r
/-- the ground of a call that may turn what is odd -/
theorem hide_keeps {h : Heap} {Xs : List (Addr × Obj)} (hXs : ∀ p ∈ Xs, h.get? p.1 = some p.2 ∧ Odd p.2) {b : Addr} {o : Obj} (ho : h.get? b = some o) (hn : ¬ Odd o) : (hideAll h (Xs.map (·.1))).get? b = some o :=
  hideAll_get _ ho fun q => by
    obtain ⟨p, hp, rfl⟩ := List.mem_map.mp q
    rw [(hXs p hp).1] at ho; cases ho; exact hn (hXs p hp).2
theorem NodeAt.ground {w : World} {h : Heap} {Xs : List (Addr × Obj)} {v : NodeV} {cm : Str → Addr} {tn to tl te : Tok} (hXs : ∀ p ∈ Xs, h.get? p.1 = some p.2 ∧ Odd p.2) (x : NodeAt w h v cm tn to tl te) : NodeAt w (hideAll h (Xs.map (·.1))) v cm tn to tl te :=
  x.imp (fun b o ho _ q => ⟨o.slots, hide_keeps hXs ho fun n => q.elim (fun ⟨v, q⟩ => n.1 v q) fun ⟨v, q⟩ => n.2.1 v q⟩) fun c q ⟨a, o, vs, t, r1, ho, hd, hv⟩ => ⟨a, o, vs, t, r1, hide_keeps hXs ho fun n => n.2.2.1 vs hd q t hv, hd, hv⟩
theorem HandOk.hide {h : Heap} {Xs : List (Addr × Obj)} {hd : Option Value} (hXs : ∀ p ∈ Xs, h.get? p.1 = some p.2 ∧ Odd p.2) (q : HandOk h hd) : HandOk (hideAll h (Xs.map (·.1))) hd :=
  q.keeps fun e x ⟨o, vs, q1, q2, r⟩ => ⟨o, vs, hide_keeps hXs q1 fun n => n.2.2.2 q2, q2, r⟩

/-! F3 -/

local macro_rules | `(tactic| k_room) => `(tactic| ((try simp only [depth_under_make, depth_under_kw, depth_in1, depth_deeper, depth_caller]); (try dsimp only [Around.deeper, Around.mark]); first | exact room_c | exact room_0 | exact room_1 | exact room_2 | omega))
section
variable {prog : Program} {w : World} {p : Program} {loose : List Str} {mean : ExcName → Option Value} {mg mb : Str → Option Value} {B : Heap} {A : Around} {outer : List Env} {s : Shared} {Q E : Value → Shared → Prop}

/-- the profiler that _law_profiler makes -/
def ProfAt (h : Heap) (x : Addr) (f1 f2 f3 f4 : Addr) : Prop := ∃ d es n, h.get? x = some (instObj 52 d) ∧ h.get? d = some (dictOf es n) ∧ getL (Str.ofString "run") es = some (some (.ref f1)) ∧ getL (Str.ofString "runctx") es = some (some (.ref f2)) ∧
  getL (Str.ofString "dump_stats") es = some (some (.ref f3)) ∧ getL (Str.ofString "print_stats") es = some (some (.ref f4))

/-- .. and it is new -/
def ProfNew (h₀ h : Heap) (x : Addr) : Prop := h₀.get? x = none ∧ ∀ d, h.get? x = some (instObj 52 d) → h₀.get? d = none

theorem profiler_spec (b : Base w p loose mean mg mb B) (hst : A.frames = some outer) (hB : B.StaysIn s.heap) (hff : s.heap.FunFrames B outer) (hroom : A.depth + 10 < recursionLimit) (hun : A.units + 60 < cLine) {f1 f2 f3 f4 : Addr}
    (ret : ∀ h' tk' x, (∀ b o, s.heap.get? b = some o → h'.get? b = some o) → ProfAt h' x f1 f2 f3 f4 → ProfNew s.heap h' x → Q (.ref x) { s with heap := h', toks := tk' }) :
    wpAny (model prog w) A (call (.ref 70) [.ref f1, .ref f2, .ref f3, .ref f4]) Q E s := by
  have ff : PySem.Challenge.rw_kl0226_01 = PySem.Challenge.rw_kl0226_01 ∧ hd.heap_39 = hd.heap_39 := by
    k_fill
    exact ⟨rfl, rfl⟩
  clear ff
  obtain ⟨hd, dp, fr, gd, un⟩ := A
  cases hst
  dsimp only at hroom hun
  have X₀ := b.X.keeps hB
  have hop : Open B outer s.heap [] := fun _ h => nomatch h
  refine' enter_k (B := B) (binds := [(Str.ofString "inside", .ref f1), (Str.ofString "inside_of", .ref f2), (Str.ofString "dumped", .ref f3), (Str.ofString "printed", .ref f4)]) [] rfl hB hff hop b.T.nolimit ?k1 ?k2 ?k3 ?k4 ?k5 ?k6 ?_ ?k7 ?k8 ?k9 ?k10
  case k1 => exact X₀ _ _ (by k_is)
  case k2 => exact rfl
  case k3 => exact codeRec_of X₀ (by k_is)
  case k4 => exact Nat.lt_of_le_of_lt (Nat.le_add_right _ _) hroom
  case k5 => exact BindsTo.of_eq rfl
  case k6 => exact locs rfl
  case k7 => decide
  case k8 => exact rfl
  case k9 => exact rfl
  case k10 => exact rfl
  intro g L h₁ hg hL F N Bw
  have X' := b.X.keeps Bw.stays
  have T' := b.T.keeps Bw.stays
  change wpAny _ _ _ _ _ _
  k_fold
  k_steps
  rename_i h₂ F' N'
  subst hg
  exact ret h₂ _ _ (fun b o e => F'.keep b o e) ⟨_, _, _, (N' _ (List.Mem.head _)).1, (N' _ (List.Mem.tail _ (List.Mem.head _))).1, by k_get, by k_get, by k_get, by k_get⟩ ⟨(N' _ (List.Mem.head _)).2.2, fun d q => by
    have e := (N' _ (List.Mem.head _)).1
    rw [q] at e
    cases congrArg Obj.dict (Option.some.inj e)
    exact (N' _ (List.Mem.tail _ (List.Mem.head _))).2.2⟩
end

/-! F4 -/

section
variable {prog : Program} {w : World} {p : Program} {loose : List Str} {mean : ExcName → Option Value} {mg mb : Str → Option Value} {B : Heap} {A A₀ : Around} {outer : List Env} {s : Shared} {Q E : Value → Shared → Prop}
  {g : Heap} {L : Addr} {m : Str → Option Value} {env : Env} {news : List (Addr × Obj)}
/-- a call of _law_profiler in a walk -/
theorem profiler_at (b : Base w p loose mean mg mb B) (Bw : Below A₀ B outer g) (F : Fr g L s.heap m) (N : News g L s.heap news) (hA : A.frames = some (env :: outer)) (hf : env.frame = some L) (hke : env.scope.kind = .function)
    (hroom : A.depth + 10 < recursionLimit) (hun : A.units + 60 < cLine) {f1 f2 f3 f4 : Addr}
    (ret : ∀ h' tk' x, Fr g L h' m → News g L h' news → ProfAt h' x f1 f2 f3 f4 → (∀ b, (b = x ∨ h'.get? x = some (instObj 52 b)) → g.get? b = none ∧ ∀ p ∈ news, p.1 ≠ b) → Q (.ref x) { s with heap := h', toks := tk' }) :
    wpAny (model prog w) A (call (.ref 70) [.ref f1, .ref f2, .ref f3, .ref f4]) Q E s :=
  have P := pushX Bw F hf hke
  profiler_spec b hA P.stays P.frames hroom hun fun h' tk' x kp pr hx => ret h' tk' x (Fr.on F kp) (fun q hq => ⟨kp _ _ (N q hq).1, (N q hq).2⟩) pr fun b hb => by
    have nb : s.heap.get? b = none := hb.elim (fun q => q ▸ hx.1) fun q => hx.2 b q
    refine ⟨?_, fun p hp q => ?_⟩
    · cases e : g.get? b with
      | none => rfl
      | some o =>
        have := F.keep b o e
        rw [nb] at this
        cases this
    · have := (N p hp).1
      rw [q, nb] at this
      cases this
end
theorem ProfNew.hide {h₀ h g : Heap} {lg x : Addr} {its : Array Value} {n : Nat} {news : List (Addr × Obj)} {o : Obj} (hg : g = hideAll h₀ ([(lg, listOf its n)].map (·.1))) (hm : (lg, o) ∈ news) (nx : ∀ b, (b = x ∨ h.get? x = some (instObj 52 b)) → g.get? b = none ∧ ∀ p ∈ news, p.1 ≠ b) : ProfNew h₀ h x := by
  have one : ∀ b, (g.get? b = none ∧ ∀ p ∈ news, p.1 ≠ b) → h₀.get? b = none := fun b q => by
    cases e : h₀.get? b with
    | none => rfl
    | some o' =>
      have := hg ▸ hideAll_get _ e fun m => q.2 _ hm (List.mem_singleton.mp m).symm
      rw [q.1] at this; cases this
  exact ⟨one _ (nx x (.inl rfl)), fun d q => one _ (nx d (.inr q))⟩
section
variable {prog : Program} {w : World} {p : Program} {loose : List Str} {mean : ExcName → Option Value} {mg mb : Str → Option Value} {B : Heap} {A : Around} {outer : List Env} {s : Shared} {Q E : Value → Shared → Prop}
  {v : NodeV} {cm : Str → Addr} {tn to tl te : Tok} {es : List Ent}

theorem dumped_spec (b : Base w p loose mean mg mb B) (V : NodeAt w s.heap v cm tn to tl te) (hst : A.frames = some outer) (hB : B.StaysIn s.heap) (hff : s.heap.FunFrames B outer) (hlg : B.get? v.lg = none ∧ v.lg ∉ fs outer)
    (hh : HandOk s.heap A.handled) (hroom : A.depth + 10 < recursionLimit) (hun : A.units + 60 < cLine) (hlog : LogIs s.heap v.lg es) (hes : es.length ≤ 100000) (hl : 0 ≤ v.late ∧ v.late ≤ 3) {x : EV} {u : Value} (hx : x.Is u)
    (ret : v.late = 0 → ∀ h' tk', Keeps (fs outer) [v.lg] s.heap h' → LogIs h' v.lg (es ++ [⟨3, v.n, x⟩]) → Q .none { s with heap := h', toks := tk' })
    (exc : v.late ≠ 0 → ∀ h' tk' e, Raised outer [v.lg] s.heap h' e (excOf v.late) → LogIs h' v.lg (es ++ [⟨3, v.n, x⟩]) → E (.ref e) { s with heap := h', toks := tk' }) :
    wpAny (model prog w) A (call (.ref v.fD) [u]) Q E s := by
  have ff : PySem.Challenge.rw_kl0226_01 = PySem.Challenge.rw_kl0226_01 ∧ hd.heap_39 = hd.heap_39 := by
    k_fill
    exact ⟨rfl, rfl⟩
  clear ff
  obtain ⟨fo, nm, qual, params, body, scope, cl, doc, pm, c', ctv, ho, hfo, hcd, ⟨od, fd, stmts, dpos, d1, d2, d3, d4⟩, hcl⟩ := V.kD
  cases Option.some.inj (d1.symm.trans (by k_is))
  cases d2
  cases d3
  cases d4
  clear d1
  have k_late := hcl (Str.ofString "late") (by simp)
  have k_log := hcl (Str.ofString "log") (by simp)
  have k_number := hcl (Str.ofString "number") (by simp)
  clear hcl
  obtain ⟨hd, dp, fr, gd, un⟩ := A
  cases hst
  dsimp only at hh hroom hun
  have X₀ := b.X.keeps hB
  obtain ⟨its, nn, hlo, hit⟩ := hlog
  have hop : Open B outer s.heap [(v.lg, listOf its nn)] := fun p hp => by cases List.mem_singleton.mp hp; exact ⟨hlo, hlg⟩
  have hod : ∀ p ∈ [(v.lg, listOf its nn)], s.heap.get? p.1 = some p.2 ∧ Odd p.2 := fun p hp => by cases List.mem_singleton.mp hp; exact ⟨hlo, .list⟩
  refine' enter_k (B := B) (binds := [(Str.ofString "path", u)]) [(v.lg, listOf its nn)] rfl hB hff hop b.T.nolimit ?k1 ?k2 ?k3 ?k4 ?k5 ?k6 ?_ ?k7 ?k8 ?k9 ?k10
  case k1 => exact ho
  case k2 => exact hfo
  case k3 => exact hcd
  case k4 => exact Nat.lt_of_le_of_lt (Nat.le_add_right _ _) hroom
  case k5 => exact BindsTo.of_eq rfl
  case k6 => exact locs rfl
  case k7 => decide
  case k8 => exact rfl
  case k9 => exact rfl
  case k10 => exact rfl
  intro g L h₁ hg hL F N Bw
  have X' := b.X.keeps Bw.stays
  have T' := b.T.keeps Bw.stays
  have V' := V.ground hod
  rw [← hg] at V'
  have v_late := V'.late
  have v_log := V'.log
  have v_number := V'.number
  have hh' : HandOk g hd := hg ▸ hh.hide hod
  have hsz : its.size ≤ sizeLine := its_fit hit hes
  change wpAny _ _ _ _ _ _
  k_fold
  repeat' (first | ((with_reducible show wpAny _ _ (call (Value.ref 70) _) _ _ _); k_dflt (refine' profiler_at ?q9b ?q9Bw ?q9F ?q9N ?q9hA ?q9hf ?q9hke ?q9hr ?q9hu ?_; (case q9b => assumption); (case q9Bw => assumption); (case q9F => k_asm); (case q9N => k_asm); (case q9hA => exact rfl); (case q9hf => exact rfl); (case q9hke => exact rfl); (case q9hr => k_room); (case q9hu => k_room); k_whole); intro _ _ _ _ _ _ _; (try k_sweep)) | ((with_reducible show wpAny _ _ (call (Value.ref 63) _) _ _ _); k_dflt (refine' raise_at ?q9b ?q9Bw ?q9F ?q9N ?q9hA ?q9hf ?q9hke ?q9hh ?q9hr ?q9hu ?q9hk ?ret ?exc; (case q9b => assumption); (case q9Bw => assumption); (case q9F => k_asm); (case q9N => k_asm); (case q9hA => exact rfl); (case q9hf => exact rfl); (case q9hke => exact rfl); (case q9hh => assumption); (case q9hr => k_room); (case q9hu => k_room); (case q9hk => assumption); k_whole); (case' ret => (intro _ _ _ _ _; (try k_sweep))); (case' exc => intro _ _ _ _ _ _ _)) | ((with_reducible show wpAny _ _ (eval (Expr.Name _ _) _) _ _ _); k_dflt (refine' nameG ?q9F ?q9c ?q9v ?_ ?q9a ?q9b ?q9d ?q9n; (case q9a => rfl); (case q9b => rfl); (case q9d => decide); (case q9n => decide); (case q9F => k_asm); (case q9c => assumption); (case q9v => assumption); k_whole)) | (k_unfold; (try dsimp only)) | (k_end; wrow_close) | walk1 | (dsimp only; walk1) | (leave1; try dsimp only) | fail "no step")
  · rename_i hk0 h₂ _ e' F' N' R'
    refine thrown_call (Xn := []) hop hg (.refl _) F' N' Bw rfl rfl (fun _ q => nomatch q) R' (Tame.list (R'.keeps.obj _ _ (N' (v.lg, _) (by k_mem)).1 (fun q => nomatch q) (news_fs Bw N' rfl (p := (v.lg, _)) (by k_mem)))) fun h₃ q mv => ?_
    exact exc hk0 h₃ _ e' q (LogIs.one (e := ⟨3, v.n, x⟩) q.keeps hlo hit (news_moves Bw N' rfl R'.keeps mv (q := (v.lg, _)) (by k_mem) (fun q => nomatch q) .list) (news_moves Bw N' rfl R'.keeps mv (List.Mem.head _) (fun q => nomatch q) .tuple) hx)
  · rename_i hk0 h₂ _ F' N'
    have kp := exitR_k hop hg (.refl _) F' (Tame.list (N' (v.lg, _) (by k_mem)).1)
    exact ret hk0 h₂ _ kp (LogIs.one (e := ⟨3, v.n, x⟩) kp hlo hit (N' (v.lg, _) (by k_mem)).1 (N' _ (List.Mem.head _)).1 hx)

theorem printed_spec (b : Base w p loose mean mg mb B) (V : NodeAt w s.heap v cm tn to tl te) (hst : A.frames = some outer) (hB : B.StaysIn s.heap) (hff : s.heap.FunFrames B outer) (hlg : B.get? v.lg = none ∧ v.lg ∉ fs outer)
    (hh : HandOk s.heap A.handled) (hroom : A.depth + 10 < recursionLimit) (hun : A.units + 60 < cLine) (hlog : LogIs s.heap v.lg es) (hes : es.length ≤ 100000) (hl : 0 ≤ v.late ∧ v.late ≤ 3) {x : EV} {u : Value} (hx : x.Is u)
    (ret : v.late = 0 → ∀ h' tk', Keeps (fs outer) [v.lg] s.heap h' → LogIs h' v.lg (es ++ [⟨2, v.n, x⟩]) → Q .none { s with heap := h', toks := tk' })
    (exc : v.late ≠ 0 → ∀ h' tk' e, Raised outer [v.lg] s.heap h' e (excOf v.late) → LogIs h' v.lg (es ++ [⟨2, v.n, x⟩]) → E (.ref e) { s with heap := h', toks := tk' }) :
    wpAny (model prog w) A (call (.ref v.fP) [u]) Q E s := by
  have ff : PySem.Challenge.rw_kl0226_01 = PySem.Challenge.rw_kl0226_01 ∧ hd.heap_39 = hd.heap_39 := by
    k_fill
    exact ⟨rfl, rfl⟩
  clear ff
  obtain ⟨fo, nm, qual, params, body, scope, cl, doc, pm, c', ctv, ho, hfo, hcd, ⟨od, fd, stmts, dpos, d1, d2, d3, d4⟩, hcl⟩ := V.kP
  cases Option.some.inj (d1.symm.trans (by k_is))
  cases d2
  cases d3
  cases d4
  clear d1
  have k_late := hcl (Str.ofString "late") (by simp)
  have k_log := hcl (Str.ofString "log") (by simp)
  have k_number := hcl (Str.ofString "number") (by simp)
  clear hcl
  obtain ⟨hd, dp, fr, gd, un⟩ := A
  cases hst
  dsimp only at hh hroom hun
  have X₀ := b.X.keeps hB
  obtain ⟨its, nn, hlo, hit⟩ := hlog
  have hop : Open B outer s.heap [(v.lg, listOf its nn)] := fun p hp => by cases List.mem_singleton.mp hp; exact ⟨hlo, hlg⟩
  have hod : ∀ p ∈ [(v.lg, listOf its nn)], s.heap.get? p.1 = some p.2 ∧ Odd p.2 := fun p hp => by cases List.mem_singleton.mp hp; exact ⟨hlo, .list⟩
  refine' enter_k (B := B) (binds := [(Str.ofString "way", u)]) [(v.lg, listOf its nn)] rfl hB hff hop b.T.nolimit ?k1 ?k2 ?k3 ?k4 ?k5 ?k6 ?_ ?k7 ?k8 ?k9 ?k10
  case k1 => exact ho
  case k2 => exact hfo
  case k3 => exact hcd
  case k4 => exact Nat.lt_of_le_of_lt (Nat.le_add_right _ _) hroom
  case k5 => exact BindsTo.of_eq rfl
  case k6 => exact locs rfl
  case k7 => decide
  case k8 => exact rfl
  case k9 => exact rfl
  case k10 => exact rfl
  intro g L h₁ hg hL F N Bw
  have X' := b.X.keeps Bw.stays
  have T' := b.T.keeps Bw.stays
  have V' := V.ground hod
  rw [← hg] at V'
  have v_late := V'.late
  have v_log := V'.log
  have v_number := V'.number
  have hh' : HandOk g hd := hg ▸ hh.hide hod
  have hsz : its.size ≤ sizeLine := its_fit hit hes
  change wpAny _ _ _ _ _ _
  k_fold
  repeat' (first | ((with_reducible show wpAny _ _ (call (Value.ref 70) _) _ _ _); k_dflt (refine' profiler_at ?q9b ?q9Bw ?q9F ?q9N ?q9hA ?q9hf ?q9hke ?q9hr ?q9hu ?_; (case q9b => assumption); (case q9Bw => assumption); (case q9F => k_asm); (case q9N => k_asm); (case q9hA => exact rfl); (case q9hf => exact rfl); (case q9hke => exact rfl); (case q9hr => k_room); (case q9hu => k_room); k_whole); intro _ _ _ _ _ _ _; (try k_sweep)) | ((with_reducible show wpAny _ _ (call (Value.ref 63) _) _ _ _); k_dflt (refine' raise_at ?q9b ?q9Bw ?q9F ?q9N ?q9hA ?q9hf ?q9hke ?q9hh ?q9hr ?q9hu ?q9hk ?ret ?exc; (case q9b => assumption); (case q9Bw => assumption); (case q9F => k_asm); (case q9N => k_asm); (case q9hA => exact rfl); (case q9hf => exact rfl); (case q9hke => exact rfl); (case q9hh => assumption); (case q9hr => k_room); (case q9hu => k_room); (case q9hk => assumption); k_whole); (case' ret => (intro _ _ _ _ _; (try k_sweep))); (case' exc => intro _ _ _ _ _ _ _)) | ((with_reducible show wpAny _ _ (eval (Expr.Name _ _) _) _ _ _); k_dflt (refine' nameG ?q9F ?q9c ?q9v ?_ ?q9a ?q9b ?q9d ?q9n; (case q9a => rfl); (case q9b => rfl); (case q9d => decide); (case q9n => decide); (case q9F => k_asm); (case q9c => assumption); (case q9v => assumption); k_whole)) | (k_unfold; (try dsimp only)) | (k_end; wrow_close) | walk1 | (dsimp only; walk1) | (leave1; try dsimp only) | fail "no step")
  · rename_i hk0 h₂ _ e' F' N' R'
    refine thrown_call (Xn := []) hop hg (.refl _) F' N' Bw rfl rfl (fun _ q => nomatch q) R' (Tame.list (R'.keeps.obj _ _ (N' (v.lg, _) (by k_mem)).1 (fun q => nomatch q) (news_fs Bw N' rfl (p := (v.lg, _)) (by k_mem)))) fun h₃ q mv => ?_
    exact exc hk0 h₃ _ e' q (LogIs.one (e := ⟨2, v.n, x⟩) q.keeps hlo hit (news_moves Bw N' rfl R'.keeps mv (q := (v.lg, _)) (by k_mem) (fun q => nomatch q) .list) (news_moves Bw N' rfl R'.keeps mv (List.Mem.head _) (fun q => nomatch q) .tuple) hx)
  · rename_i hk0 h₂ _ F' N'
    have kp := exitR_k hop hg (.refl _) F' (Tame.list (N' (v.lg, _) (by k_mem)).1)
    exact ret hk0 h₂ _ kp (LogIs.one (e := ⟨2, v.n, x⟩) kp hlo hit (N' (v.lg, _) (by k_mem)).1 (N' _ (List.Mem.head _)).1 hx)

theorem maker_spec (b : Base w p loose mean mg mb B) (V : NodeAt w s.heap v cm tn to tl te) (hst : A.frames = some outer) (hB : B.StaysIn s.heap) (hff : s.heap.FunFrames B outer) (hlg : B.get? v.lg = none ∧ v.lg ∉ fs outer)
    (hh : HandOk s.heap A.handled) (hroom : A.depth + 20 < recursionLimit) (hun : A.units + 90 < cLine) (hlog : LogIs s.heap v.lg es) (hes : es.length ≤ 100000) (hl : 0 ≤ v.early ∧ v.early ≤ 3)
    (ret : v.early = 0 → ∀ h' tk' x, Keeps (fs outer) [v.lg] s.heap h' → LogIs h' v.lg (es ++ [⟨0, v.n, .str (Str.ofString "")⟩]) → ProfAt h' x v.fI v.fO v.fD v.fP → ProfNew s.heap h' x → Q (.ref x) { s with heap := h', toks := tk' })
    (exc : v.early ≠ 0 → ∀ h' tk' e, Raised outer [v.lg] s.heap h' e (excOf v.early) → LogIs h' v.lg (es ++ [⟨0, v.n, .str (Str.ofString "")⟩]) → E (.ref e) { s with heap := h', toks := tk' }) :
    wpAny (model prog w) A (call (.ref v.fM) []) Q E s := by
  have ff : PySem.Challenge.rw_kl0226_01 = PySem.Challenge.rw_kl0226_01 ∧ hd.heap_39 = hd.heap_39 := by
    k_fill
    exact ⟨rfl, rfl⟩
  clear ff
  obtain ⟨fo, nm, qual, params, body, scope, cl, doc, pm, c', ctv, ho, hfo, hcd, ⟨od, fd, stmts, dpos, d1, d2, d3, d4⟩, hcl⟩ := V.kM
  cases Option.some.inj (d1.symm.trans (by k_is))
  cases d2
  cases d3
  cases d4
  clear d1
  have k_dumped := hcl (Str.ofString "dumped") (by simp)
  have k_early := hcl (Str.ofString "early") (by simp)
  have k_inside := hcl (Str.ofString "inside") (by simp)
  have k_inside_of := hcl (Str.ofString "inside_of") (by simp)
  have k_log := hcl (Str.ofString "log") (by simp)
  have k_number := hcl (Str.ofString "number") (by simp)
  have k_printed := hcl (Str.ofString "printed") (by simp)
  clear hcl
  obtain ⟨hd, dp, fr, gd, un⟩ := A
  cases hst
  dsimp only at hh hroom hun
  have X₀ := b.X.keeps hB
  obtain ⟨its, nn, hlo, hit⟩ := hlog
  have hop : Open B outer s.heap [(v.lg, listOf its nn)] := fun p hp => by cases List.mem_singleton.mp hp; exact ⟨hlo, hlg⟩
  have hod : ∀ p ∈ [(v.lg, listOf its nn)], s.heap.get? p.1 = some p.2 ∧ Odd p.2 := fun p hp => by cases List.mem_singleton.mp hp; exact ⟨hlo, .list⟩
  refine' enter_k (B := B) (binds := []) [(v.lg, listOf its nn)] rfl hB hff hop b.T.nolimit ?k1 ?k2 ?k3 ?k4 ?k5 ?k6 ?_ ?k7 ?k8 ?k9 ?k10
  case k1 => exact ho
  case k2 => exact hfo
  case k3 => exact hcd
  case k4 => exact Nat.lt_of_le_of_lt (Nat.le_add_right _ _) hroom
  case k5 => exact BindsTo.of_eq rfl
  case k6 => exact locs rfl
  case k7 => decide
  case k8 => exact rfl
  case k9 => exact rfl
  case k10 => exact rfl
  intro g L h₁ hg hL F N Bw
  have X' := b.X.keeps Bw.stays
  have T' := b.T.keeps Bw.stays
  have V' := V.ground hod
  rw [← hg] at V'
  have v_dumped := V'.dumped
  have v_early := V'.early
  have v_inside := V'.inside
  have v_inside_of := V'.inside_of
  have v_log := V'.log
  have v_number := V'.number
  have v_printed := V'.printed
  have hh' : HandOk g hd := hg ▸ hh.hide hod
  have hsz : its.size ≤ sizeLine := its_fit hit hes
  change wpAny _ _ _ _ _ _
  k_fold
  repeat' (first | ((with_reducible show wpAny _ _ (call (Value.ref 70) _) _ _ _); k_dflt (refine' profiler_at ?q9b ?q9Bw ?q9F ?q9N ?q9hA ?q9hf ?q9hke ?q9hr ?q9hu ?_; (case q9b => assumption); (case q9Bw => assumption); (case q9F => k_asm); (case q9N => k_asm); (case q9hA => exact rfl); (case q9hf => exact rfl); (case q9hke => exact rfl); (case q9hr => k_room); (case q9hu => k_room); k_whole); intro _ _ _ _ _ _ _; (try k_sweep)) | ((with_reducible show wpAny _ _ (call (Value.ref 63) _) _ _ _); k_dflt (refine' raise_at ?q9b ?q9Bw ?q9F ?q9N ?q9hA ?q9hf ?q9hke ?q9hh ?q9hr ?q9hu ?q9hk ?ret ?exc; (case q9b => assumption); (case q9Bw => assumption); (case q9F => k_asm); (case q9N => k_asm); (case q9hA => exact rfl); (case q9hf => exact rfl); (case q9hke => exact rfl); (case q9hh => assumption); (case q9hr => k_room); (case q9hu => k_room); (case q9hk => assumption); k_whole); (case' ret => (intro _ _ _ _ _; (try k_sweep))); (case' exc => intro _ _ _ _ _ _ _)) | ((with_reducible show wpAny _ _ (eval (Expr.Name _ _) _) _ _ _); k_dflt (refine' nameG ?q9F ?q9c ?q9v ?_ ?q9a ?q9b ?q9d ?q9n; (case q9a => rfl); (case q9b => rfl); (case q9d => decide); (case q9n => decide); (case q9F => k_asm); (case q9c => assumption); (case q9v => assumption); k_whole)) | (k_unfold; (try dsimp only)) | (k_end; wrow_close) | walk1 | (dsimp only; walk1) | (leave1; try dsimp only) | fail "no step")
  · rename_i hk0 h₂ _ e' F' N' R'
    refine thrown_call (Xn := []) hop hg (.refl _) F' N' Bw rfl rfl (fun _ q => nomatch q) R' (Tame.list (R'.keeps.obj _ _ (N' (v.lg, _) (by k_mem)).1 (fun q => nomatch q) (news_fs Bw N' rfl (p := (v.lg, _)) (by k_mem)))) fun h₃ q mv => ?_
    exact exc hk0 h₃ _ e' q (LogIs.one (e := ⟨0, v.n, .str (Str.ofString "")⟩) q.keeps hlo hit (news_moves Bw N' rfl R'.keeps mv (q := (v.lg, _)) (by k_mem) (fun q => nomatch q) .list) (news_moves Bw N' rfl R'.keeps mv (List.Mem.head _) (fun q => nomatch q) .tuple) ⟨_, rfl⟩)
  · rename_i h₂ _ x' F' N' pr' nx'
    have kp := exitR_k hop hg (.refl _) F' (Tame.list (N' (v.lg, _) (by k_mem)).1)
    exact ret (by assumption) h₂ _ x' kp (LogIs.one (e := ⟨0, v.n, .str (Str.ofString "")⟩) kp hlo hit (N' (v.lg, _) (by k_mem)).1 (N' _ (List.Mem.head _)).1 ⟨_, rfl⟩) pr' (ProfNew.hide (lg := v.lg) hg (by k_mem) nx')
end

/-! F5 -/

theorem inst_ground {g h : Heap} {L x C d : Addr} {m : Str → Option Value} {es : List DictEntry} {n : Nat} (F : Fr g L h m) (h1 : g.get? x = some (instObj C d)) (h2 : g.get? d = some (dictOf es n)) : InstAt h x (instObj C d) C (some (dictOf es n)) := ⟨F.keep _ _ h1, rfl, rfl, F.keep _ _ h2⟩
theorem fnat_ground {w : World} {g h : Heap} {L f : Addr} {m : Str → Option Value} {i : Nat} {cm : Str → Addr} {names : List Str} (F : Fr g L h m) (k : FnC w g f i cm names) : FnAt f h := by
  obtain ⟨⟨oc, od, da, sl⟩, nm, qual, params, body, scope, cl, doc, pm, c', ctv, ho, hd, _⟩ := k
  cases hd
  exact ⟨_, _, _, _, F.keep _ _ ho⟩
theorem NodeAt.fr {w : World} {g h : Heap} {L : Addr} {m : Str → Option Value} {v : NodeV} {cm : Str → Addr} {tn to tl te : Tok} (F : Fr g L h m) (V : NodeAt w g v cm tn to tl te) : NodeAt w h v cm tn to tl te :=
  V.imp (fun b o ho _ _ => ⟨o.slots, F.keep b o ho⟩) fun c q r => r.keeps F.keep

theorem hide_ne {h : Heap} {lg : Addr} {its : Array Value} {n : Nat} (hod : ∀ p ∈ [(lg, listOf its n)], h.get? p.1 = some p.2 ∧ Odd p.2) {b : Addr} {o : Obj} (e : h.get? b = some o) (hne : o ≠ listOf its n) : (hideAll h ([(lg, listOf its n)].map (·.1))).get? b = some o :=
  hideAll_get _ e fun q => by
    cases List.mem_singleton.mp q
    have := (hod _ (List.mem_singleton_self _)).1
    rw [e] at this
    exact hne (Option.some.inj this)
theorem LogIs.at {h : Heap} {lg : Addr} {es : List Ent} (l : LogIs h lg es) : ∃ its n, h.get? lg = some (listOf its n) := let ⟨its, n, q, _⟩ := l; ⟨its, n, q⟩
theorem log_enter {h h₁ g : Heap} {lg L : Addr} {its : Array Value} {n : Nat} {es : List Ent} {m : Str → Option Value} (hlo : h.get? lg = some (listOf its n)) (hit : Ents h its.toList es) (hg : g = hideAll h ([(lg, listOf its n)].map (·.1))) (F : Fr g L h₁ m) (N : News g L h₁ [(lg, listOf its n)]) : LogIs h₁ lg es :=
  ⟨its, n, (N _ (List.mem_singleton_self _)).1, hit.imp fun v e => EntIs.slo fun b o e hc hn => ⟨o.slots, F.keep b o (hg ▸ hideAll_get _ e fun q => by
    cases List.mem_singleton.mp q
    rw [hlo] at e; cases e
    exact absurd (Value.type.inj hc) (by decide))⟩⟩
section
variable {prog : Program} {w : World} {p : Program} {loose : List Str} {mean : ExcName → Option Value} {mg mb : Str → Option Value} {B : Heap} {A A₀ : Around} {outer : List Env} {s : Shared} {Q E : Value → Shared → Prop}
  {g : Heap} {L : Addr} {m : Str → Option Value} {env : Env} {news : List (Addr × Obj)} {v : NodeV} {cm : Str → Addr} {tn to tl te : Tok} {es : List Ent}

theorem dumped_at (b : Base w p loose mean mg mb B) (Bw : Below A₀ B outer g) (F : Fr g L s.heap m) (N : News g L s.heap news) (hA : A.frames = some (env :: outer)) (hf : env.frame = some L) (hke : env.scope.kind = .function) {o : Obj} (hm : (v.lg, o) ∈ news)
    (hlg : B.get? v.lg = none) (V : NodeAt w g v cm tn to tl te) (hh : HandOk g A.handled) (hroom : A.depth + 10 < recursionLimit) (hun : A.units + 60 < cLine) (hlog : LogIs s.heap v.lg es) (hes : es.length ≤ 100000) (hl : 0 ≤ v.late ∧ v.late ≤ 3) {x : EV} {u : Value} (hx : x.Is u)
    (ret : v.late = 0 → ∀ h' tk', Keeps (fs (env :: outer)) [v.lg] s.heap h' → LogIs h' v.lg (es ++ [⟨3, v.n, x⟩]) → Q .none { s with heap := h', toks := tk' })
    (exc : v.late ≠ 0 → ∀ h' tk' e, Raised (env :: outer) [v.lg] s.heap h' e (excOf v.late) → LogIs h' v.lg (es ++ [⟨3, v.n, x⟩]) → E (.ref e) { s with heap := h', toks := tk' }) :
    wpAny (model prog w) A (call (.ref v.fD) [u]) Q E s :=
  have P := pushX Bw F hf hke
  dumped_spec b (V.fr F) hA P.stays P.frames ⟨hlg, news_fs Bw N hf hm⟩ (hh.keeps fun e x q => q.of_keep F.keep) hroom hun hlog hes hl hx ret exc

theorem printed_at (b : Base w p loose mean mg mb B) (Bw : Below A₀ B outer g) (F : Fr g L s.heap m) (N : News g L s.heap news) (hA : A.frames = some (env :: outer)) (hf : env.frame = some L) (hke : env.scope.kind = .function) {o : Obj} (hm : (v.lg, o) ∈ news)
    (hlg : B.get? v.lg = none) (V : NodeAt w g v cm tn to tl te) (hh : HandOk g A.handled) (hroom : A.depth + 10 < recursionLimit) (hun : A.units + 60 < cLine) (hlog : LogIs s.heap v.lg es) (hes : es.length ≤ 100000) (hl : 0 ≤ v.late ∧ v.late ≤ 3) {x : EV} {u : Value} (hx : x.Is u)
    (ret : v.late = 0 → ∀ h' tk', Keeps (fs (env :: outer)) [v.lg] s.heap h' → LogIs h' v.lg (es ++ [⟨2, v.n, x⟩]) → Q .none { s with heap := h', toks := tk' })
    (exc : v.late ≠ 0 → ∀ h' tk' e, Raised (env :: outer) [v.lg] s.heap h' e (excOf v.late) → LogIs h' v.lg (es ++ [⟨2, v.n, x⟩]) → E (.ref e) { s with heap := h', toks := tk' }) :
    wpAny (model prog w) A (call (.ref v.fP) [u]) Q E s :=
  have P := pushX Bw F hf hke
  printed_spec b (V.fr F) hA P.stays P.frames ⟨hlg, news_fs Bw N hf hm⟩ (hh.keeps fun e x q => q.of_keep F.keep) hroom hun hlog hes hl hx ret exc

theorem maker_at (b : Base w p loose mean mg mb B) (Bw : Below A₀ B outer g) (F : Fr g L s.heap m) (N : News g L s.heap news) (hA : A.frames = some (env :: outer)) (hf : env.frame = some L) (hke : env.scope.kind = .function) {o : Obj} (hm : (v.lg, o) ∈ news)
    (hlg : B.get? v.lg = none) (V : NodeAt w g v cm tn to tl te) (hh : HandOk g A.handled) (hroom : A.depth + 20 < recursionLimit) (hun : A.units + 90 < cLine) (hlog : LogIs s.heap v.lg es) (hes : es.length ≤ 100000) (hl : 0 ≤ v.early ∧ v.early ≤ 3)
    (ret : v.early = 0 → ∀ h' tk' x, Keeps (fs (env :: outer)) [v.lg] s.heap h' → LogIs h' v.lg (es ++ [⟨0, v.n, .str (Str.ofString "")⟩]) → ProfAt h' x v.fI v.fO v.fD v.fP → ProfNew s.heap h' x → Q (.ref x) { s with heap := h', toks := tk' })
    (exc : v.early ≠ 0 → ∀ h' tk' e, Raised (env :: outer) [v.lg] s.heap h' e (excOf v.early) → LogIs h' v.lg (es ++ [⟨0, v.n, .str (Str.ofString "")⟩]) → E (.ref e) { s with heap := h', toks := tk' }) :
    wpAny (model prog w) A (call (.ref v.fM) []) Q E s :=
  have P := pushX Bw F hf hke
  maker_spec b (V.fr F) hA P.stays P.frames ⟨hlg, news_fs Bw N hf hm⟩ (hh.keeps fun e x q => q.of_keep F.keep) hroom hun hlog hes hl ret exc
end
local macro_rules | `(tactic| k_inst) => `(tactic| (refine' inst_ground ?F ?h1 ?h2; (case F => k_asm); (case h1 => assumption); (case h2 => assumption)))
local macro_rules | `(tactic| k_get) => `(tactic| assumption)
local macro_rules | `(tactic| walk_at "FnAt") => `(tactic| (k_dflt (exact fnat_ground (by k_asm) (by assumption))))
section
variable {prog : Program} {w : World} {p : Program} {loose : List Str} {mean : ExcName → Option Value} {mg mb : Str → Option Value} {B : Heap} {A : Around} {outer : List Env} {s : Shared} {Q E : Value → Shared → Prop}
  {v : NodeV} {cm : Str → Addr} {tn to tl te : Tok} {es : List Ent}

theorem showD_spec (b : Base w p loose mean mg mb B) (V : NodeAt w s.heap v cm tn to tl te) (hst : A.frames = some outer) (hB : B.StaysIn s.heap) (hff : s.heap.FunFrames B outer) (hlg : B.get? v.lg = none ∧ v.lg ∉ fs outer)
    (hh : HandOk s.heap A.handled) (hroom : A.depth + 30 < recursionLimit) (hun : A.units + 120 < cLine) (hlog : LogIs s.heap v.lg es) (hes : es.length ≤ 100000) (hl : 0 ≤ v.late ∧ v.late ≤ 3) {q x : Addr} {k : Int} {tk : Tok} {y : Str} {t : Tok} (hp : ProfAt s.heap x v.fI v.fO v.fD v.fP)
    (ret : v.late = 0 → ∀ h' tk', Keeps (fs outer) [v.lg] s.heap h' → LogIs h' v.lg (es ++ [⟨3, v.n, .str y⟩]) → Q .none { s with heap := h', toks := tk' })
    (exc : v.late ≠ 0 → ∀ h' tk' e, Raised outer [v.lg] s.heap h' e (excOf v.late) → LogIs h' v.lg (es ++ [⟨3, v.n, .str y⟩]) → E (.ref e) { s with heap := h', toks := tk' }) :
    wpAny (model prog w) A (call (.ref 49) [.ref q, .ref x, .str y t, .int k tk]) Q E s := by
  have ff : PySem.Challenge.rw_kl0226_01 = PySem.Challenge.rw_kl0226_01 ∧ hd.heap_39 = hd.heap_39 := by
    k_fill
    exact ⟨rfl, rfl⟩
  clear ff
  obtain ⟨hd, dp, fr, gd, un⟩ := A
  cases hst
  dsimp only at hh hroom hun
  have X₀ := b.X.keeps hB
  obtain ⟨its, nn, hlo, hit⟩ := hlog
  have hop : Open B outer s.heap [(v.lg, listOf its nn)] := fun p hp => by cases List.mem_singleton.mp hp; exact ⟨hlo, hlg⟩
  have hod : ∀ p ∈ [(v.lg, listOf its nn)], s.heap.get? p.1 = some p.2 ∧ Odd p.2 := fun p hp => by cases List.mem_singleton.mp hp; exact ⟨hlo, .list⟩
  refine' enter_k (B := B) (binds := [(Str.ofString "self", .ref q), (Str.ofString "prof", .ref x), (Str.ofString "filename", .str y t), (Str.ofString "sort", .int k tk)]) [(v.lg, listOf its nn)] rfl hB hff hop b.T.nolimit ?k1 ?k2 ?k3 ?k4 ?k5 ?k6 ?_ ?k7 ?k8 ?k9 ?k10
  case k1 => exact X₀ _ _ (by k_is)
  case k2 => exact rfl
  case k3 => exact codeRec_of X₀ (by k_is)
  case k4 => exact Nat.lt_of_le_of_lt (Nat.le_add_right _ _) hroom
  case k5 => exact BindsTo.of_eq rfl
  case k6 => exact locs rfl
  case k7 => decide
  case k8 => exact rfl
  case k9 => exact rfl
  case k10 => exact rfl
  intro g L h₁ hg hL F N Bw
  have X' := b.X.keeps Bw.stays
  have T' := b.T.keeps Bw.stays
  have V' := V.ground hod
  rw [← hg] at V'
  have hh' : HandOk g hd := hg ▸ hh.hide hod
  have hsz : its.size ≤ sizeLine := its_fit hit hes
  obtain ⟨xd, xes, xn, p1, p2, p3, p4, p5, p6⟩ := hp
  have p1' : g.get? x = some (instObj 52 xd) := hg ▸ hide_ne hod p1 (fun q => by cases congrArg Obj.data q)
  have p2' : g.get? xd = some (dictOf xes xn) := hg ▸ hide_ne hod p2 (fun q => by cases congrArg Obj.data q)
  have kD' := V'.kD
  have kP' := V'.kP
  have hlg' := hlg.1
  have hx' : EV.Is (.str y) (.str y t) := ⟨_, rfl⟩
  have hlog' : LogIs h₁ v.lg es := log_enter hlo hit hg F N
  change wpAny _ _ _ _ _ _
  k_fold
  repeat' (first | ((with_reducible show wpAny _ _ (call (Value.ref (NodeV.fP _)) _) _ _ _); k_dflt (refine' printed_at ?q9b ?q9Bw ?q9F ?q9N ?q9hA ?q9hf ?q9hke ?q9hm ?q9hlg ?q9V ?q9hh ?q9hr ?q9hu ?q9hlog ?q9hes ?q9hl ?q9hx ?ret ?exc; (case q9b => assumption); (case q9Bw => assumption); (case q9F => k_asm); (case q9N => k_asm); (case q9hA => exact rfl); (case q9hf => exact rfl); (case q9hke => exact rfl); (case q9hm => k_mem); (case q9hlg => assumption); (case q9V => assumption); (case q9hh => assumption); (case q9hr => k_room); (case q9hu => k_room); (case q9hlog => assumption); (case q9hes => assumption); (case q9hl => assumption); (case q9hx => assumption); k_whole); (case' ret => intro _ _ _ _ _); (case' exc => intro _ _ _ _ _ _)) | ((with_reducible show wpAny _ _ (call (Value.ref (NodeV.fD _)) _) _ _ _); k_dflt (refine' dumped_at ?q9b ?q9Bw ?q9F ?q9N ?q9hA ?q9hf ?q9hke ?q9hm ?q9hlg ?q9V ?q9hh ?q9hr ?q9hu ?q9hlog ?q9hes ?q9hl ?q9hx ?ret ?exc; (case q9b => assumption); (case q9Bw => assumption); (case q9F => k_asm); (case q9N => k_asm); (case q9hA => exact rfl); (case q9hf => exact rfl); (case q9hke => exact rfl); (case q9hm => k_mem); (case q9hlg => assumption); (case q9V => assumption); (case q9hh => assumption); (case q9hr => k_room); (case q9hu => k_room); (case q9hlog => assumption); (case q9hes => assumption); (case q9hl => assumption); (case q9hx => assumption); k_whole); (case' ret => intro _ _ _ _ _); (case' exc => intro _ _ _ _ _ _)) | ((with_reducible show wpAny _ _ (callWith _ (Value.ref _) _ _ _) _ _ _); k_dflt (first   | (refine' callWith_F ?q9k1 ?_; (case q9k1 => exact fnat_ground (by k_asm) (by assumption)); k_whole)   | (refine' callWith_F0 ?q9k1 ?_; (case q9k1 => exact fnat_ground (by k_asm) (by assumption)); k_whole; try dsimp only [List.nil_append, List.cons_append]))) | ((with_reducible show wpAny _ _ (call (Value.ref 63) _) _ _ _); k_dflt (refine' raise_at ?q9b ?q9Bw ?q9F ?q9N ?q9hA ?q9hf ?q9hke ?q9hh ?q9hr ?q9hu ?q9hk ?ret ?exc; (case q9b => assumption); (case q9Bw => assumption); (case q9F => k_asm); (case q9N => k_asm); (case q9hA => exact rfl); (case q9hf => exact rfl); (case q9hke => exact rfl); (case q9hh => assumption); (case q9hr => k_room); (case q9hu => k_room); (case q9hk => assumption); k_whole); (case' ret => (intro _ _ _ _ _; (try k_sweep))); (case' exc => intro _ _ _ _ _ _ _)) | ((with_reducible show wpAny _ _ (eval (Expr.Name _ _) _) _ _ _); k_dflt (refine' nameG ?q9F ?q9c ?q9v ?_ ?q9a ?q9b ?q9d ?q9n; (case q9a => rfl); (case q9b => rfl); (case q9d => decide); (case q9n => decide); (case q9F => k_asm); (case q9c => assumption); (case q9v => assumption); k_whole)) | (k_unfold; (try dsimp only)) | (k_end; wrow_close) | walk1 | (dsimp only; walk1) | (leave1; try dsimp only) | fail "no step")
  · rename_i hk0 h₂ _ e' R' l'
    have q1 := l'.at
    obtain ⟨its', n', q1⟩ := q1
    refine thrown_call (Xn := [v.lg]) hop hg (.refl _) F N Bw rfl rfl (fun z hz => by cases List.mem_singleton.mp hz; exact List.mem_map_of_mem (List.mem_singleton_self _)) R' (Tame.list q1) fun h₃ q mv => ?_
    exact exc hk0 h₃ _ e' q (l'.moves mv (news_fs Bw N rfl (List.mem_singleton_self _)))
  · rename_i hk0 h₂ _ k' l'
    obtain ⟨its', n', q1⟩ := l'.at
    obtain ⟨g', t1, F', _⟩ := back Bw F N rfl (X := [v.lg]) (fun z hz => by cases List.mem_singleton.mp hz; exact List.mem_map_of_mem (List.mem_singleton_self _)) k'
    exact ret hk0 h₂ _ (exitR_k hop hg t1 F' (Tame.list q1)) l'

theorem showP_spec (b : Base w p loose mean mg mb B) (V : NodeAt w s.heap v cm tn to tl te) (hst : A.frames = some outer) (hB : B.StaysIn s.heap) (hff : s.heap.FunFrames B outer) (hlg : B.get? v.lg = none ∧ v.lg ∉ fs outer)
    (hh : HandOk s.heap A.handled) (hroom : A.depth + 30 < recursionLimit) (hun : A.units + 120 < cLine) (hlog : LogIs s.heap v.lg es) (hes : es.length ≤ 100000) (hl : 0 ≤ v.late ∧ v.late ≤ 3) {q x : Addr} {k : Int} {tk : Tok} {y : Str} {t : Tok} (hp : ProfAt s.heap x v.fI v.fO v.fD v.fP)
    (ret : v.late = 0 → ∀ h' tk', Keeps (fs outer) [v.lg] s.heap h' → LogIs h' v.lg (es ++ [⟨2, v.n, .int k⟩]) → Q .none { s with heap := h', toks := tk' })
    (exc : v.late ≠ 0 → ∀ h' tk' e, Raised outer [v.lg] s.heap h' e (excOf v.late) → LogIs h' v.lg (es ++ [⟨2, v.n, .int k⟩]) → E (.ref e) { s with heap := h', toks := tk' }) :
    wpAny (model prog w) A (call (.ref 49) [.ref q, .ref x, .none, .int k tk]) Q E s := by
  have ff : PySem.Challenge.rw_kl0226_01 = PySem.Challenge.rw_kl0226_01 ∧ hd.heap_39 = hd.heap_39 := by
    k_fill
    exact ⟨rfl, rfl⟩
  clear ff
  obtain ⟨hd, dp, fr, gd, un⟩ := A
  cases hst
  dsimp only at hh hroom hun
  have X₀ := b.X.keeps hB
  obtain ⟨its, nn, hlo, hit⟩ := hlog
  have hop : Open B outer s.heap [(v.lg, listOf its nn)] := fun p hp => by cases List.mem_singleton.mp hp; exact ⟨hlo, hlg⟩
  have hod : ∀ p ∈ [(v.lg, listOf its nn)], s.heap.get? p.1 = some p.2 ∧ Odd p.2 := fun p hp => by cases List.mem_singleton.mp hp; exact ⟨hlo, .list⟩
  refine' enter_k (B := B) (binds := [(Str.ofString "self", .ref q), (Str.ofString "prof", .ref x), (Str.ofString "filename", .none), (Str.ofString "sort", .int k tk)]) [(v.lg, listOf its nn)] rfl hB hff hop b.T.nolimit ?k1 ?k2 ?k3 ?k4 ?k5 ?k6 ?_ ?k7 ?k8 ?k9 ?k10
  case k1 => exact X₀ _ _ (by k_is)
  case k2 => exact rfl
  case k3 => exact codeRec_of X₀ (by k_is)
  case k4 => exact Nat.lt_of_le_of_lt (Nat.le_add_right _ _) hroom
  case k5 => exact BindsTo.of_eq rfl
  case k6 => exact locs rfl
  case k7 => decide
  case k8 => exact rfl
  case k9 => exact rfl
  case k10 => exact rfl
  intro g L h₁ hg hL F N Bw
  have X' := b.X.keeps Bw.stays
  have T' := b.T.keeps Bw.stays
  have V' := V.ground hod
  rw [← hg] at V'
  have hh' : HandOk g hd := hg ▸ hh.hide hod
  have hsz : its.size ≤ sizeLine := its_fit hit hes
  obtain ⟨xd, xes, xn, p1, p2, p3, p4, p5, p6⟩ := hp
  have p1' : g.get? x = some (instObj 52 xd) := hg ▸ hide_ne hod p1 (fun q => by cases congrArg Obj.data q)
  have p2' : g.get? xd = some (dictOf xes xn) := hg ▸ hide_ne hod p2 (fun q => by cases congrArg Obj.data q)
  have kD' := V'.kD
  have kP' := V'.kP
  have hlg' := hlg.1
  have hx' : EV.Is (.int k) (.int k tk) := ⟨_, rfl⟩
  have hlog' : LogIs h₁ v.lg es := log_enter hlo hit hg F N
  change wpAny _ _ _ _ _ _
  k_fold
  repeat' (first | ((with_reducible show wpAny _ _ (call (Value.ref (NodeV.fP _)) _) _ _ _); k_dflt (refine' printed_at ?q9b ?q9Bw ?q9F ?q9N ?q9hA ?q9hf ?q9hke ?q9hm ?q9hlg ?q9V ?q9hh ?q9hr ?q9hu ?q9hlog ?q9hes ?q9hl ?q9hx ?ret ?exc; (case q9b => assumption); (case q9Bw => assumption); (case q9F => k_asm); (case q9N => k_asm); (case q9hA => exact rfl); (case q9hf => exact rfl); (case q9hke => exact rfl); (case q9hm => k_mem); (case q9hlg => assumption); (case q9V => assumption); (case q9hh => assumption); (case q9hr => k_room); (case q9hu => k_room); (case q9hlog => assumption); (case q9hes => assumption); (case q9hl => assumption); (case q9hx => assumption); k_whole); (case' ret => intro _ _ _ _ _); (case' exc => intro _ _ _ _ _ _)) | ((with_reducible show wpAny _ _ (call (Value.ref (NodeV.fD _)) _) _ _ _); k_dflt (refine' dumped_at ?q9b ?q9Bw ?q9F ?q9N ?q9hA ?q9hf ?q9hke ?q9hm ?q9hlg ?q9V ?q9hh ?q9hr ?q9hu ?q9hlog ?q9hes ?q9hl ?q9hx ?ret ?exc; (case q9b => assumption); (case q9Bw => assumption); (case q9F => k_asm); (case q9N => k_asm); (case q9hA => exact rfl); (case q9hf => exact rfl); (case q9hke => exact rfl); (case q9hm => k_mem); (case q9hlg => assumption); (case q9V => assumption); (case q9hh => assumption); (case q9hr => k_room); (case q9hu => k_room); (case q9hlog => assumption); (case q9hes => assumption); (case q9hl => assumption); (case q9hx => assumption); k_whole); (case' ret => intro _ _ _ _ _); (case' exc => intro _ _ _ _ _ _)) | ((with_reducible show wpAny _ _ (callWith _ (Value.ref _) _ _ _) _ _ _); k_dflt (first   | (refine' callWith_F ?q9k1 ?_; (case q9k1 => exact fnat_ground (by k_asm) (by assumption)); k_whole)   | (refine' callWith_F0 ?q9k1 ?_; (case q9k1 => exact fnat_ground (by k_asm) (by assumption)); k_whole; try dsimp only [List.nil_append, List.cons_append]))) | ((with_reducible show wpAny _ _ (call (Value.ref 63) _) _ _ _); k_dflt (refine' raise_at ?q9b ?q9Bw ?q9F ?q9N ?q9hA ?q9hf ?q9hke ?q9hh ?q9hr ?q9hu ?q9hk ?ret ?exc; (case q9b => assumption); (case q9Bw => assumption); (case q9F => k_asm); (case q9N => k_asm); (case q9hA => exact rfl); (case q9hf => exact rfl); (case q9hke => exact rfl); (case q9hh => assumption); (case q9hr => k_room); (case q9hu => k_room); (case q9hk => assumption); k_whole); (case' ret => (intro _ _ _ _ _; (try k_sweep))); (case' exc => intro _ _ _ _ _ _ _)) | ((with_reducible show wpAny _ _ (eval (Expr.Name _ _) _) _ _ _); k_dflt (refine' nameG ?q9F ?q9c ?q9v ?_ ?q9a ?q9b ?q9d ?q9n; (case q9a => rfl); (case q9b => rfl); (case q9d => decide); (case q9n => decide); (case q9F => k_asm); (case q9c => assumption); (case q9v => assumption); k_whole)) | (k_unfold; (try dsimp only)) | (k_end; wrow_close) | walk1 | (dsimp only; walk1) | (leave1; try dsimp only) | fail "no step")
  · rename_i hk0 h₂ _ e' R' l'
    have q1 := l'.at
    obtain ⟨its', n', q1⟩ := q1
    refine thrown_call (Xn := [v.lg]) hop hg (.refl _) F N Bw rfl rfl (fun z hz => by cases List.mem_singleton.mp hz; exact List.mem_map_of_mem (List.mem_singleton_self _)) R' (Tame.list q1) fun h₃ q mv => ?_
    exact exc hk0 h₃ _ e' q (l'.moves mv (news_fs Bw N rfl (List.mem_singleton_self _)))
  · rename_i hk0 h₂ _ k' l'
    obtain ⟨its', n', q1⟩ := l'.at
    obtain ⟨g', t1, F', _⟩ := back Bw F N rfl (X := [v.lg]) (fun z hz => by cases List.mem_singleton.mp hz; exact List.mem_map_of_mem (List.mem_singleton_self _)) k'
    exact ret hk0 h₂ _ (exitR_k hop hg t1 F' (Tame.list q1)) l'
end

/-! F6 -/

/-! ## the tree of runs, in plain words -/
structure Nd where
  parent : Int
  own : Int
  entry : Int
  place : EV
  late : Int
  early : Int
  deriving DecidableEq
structure Nd.Ok (d : Nd) : Prop where
  own : 0 ≤ d.own ∧ d.own ≤ 3
  late : 0 ≤ d.late ∧ d.late ≤ 3
  early : 0 ≤ d.early ∧ d.early ≤ 3
  place : d.place = .none ∨ ∃ y, d.place = .str y

/-- the first error that comes out of the k nodes from o on which stand below j, else the own one -/
def kidsOut (nd : Nat → Nd) (out : Nat → Int) (j : Nat) (own : Int) : Nat → Nat → Int
  | 0, _ => own
  | k + 1, o => if (nd o).parent = j then (if out o ≠ 0 then out o else kidsOut nd out j own k (o + 1)) else kidsOut nd out j own k (o + 1)
def kidsTold (nd : Nat → Nd) (out : Nat → Int) (told : Nat → List Ent) (j : Nat) : Nat → Nat → List Ent
  | 0, _ => []
  | k + 1, o => if (nd o).parent = j then told o ++ (if out o ≠ 0 then [] else kidsTold nd out told j k (o + 1)) else kidsTold nd out told j k (o + 1)
def stepOut (nd : Nat → Nd) (len : Nat) (out : Nat → Int) (j : Nat) : Int :=
  if (nd j).early ≠ 0 then (nd j).early else if (nd j).late ≠ 0 then (nd j).late else if kidsOut nd out j (nd j).own (len - (j + 1)) (j + 1) = 1 then 0 else kidsOut nd out j (nd j).own (len - (j + 1)) (j + 1)
def textOf (j : Nat) : Str := Str.ofString "s" ++ Str.ofString (toString (j : Int))
def shownOf (d : Nd) (j : Nat) : Ent := match d.place with
  | .none => ⟨2, j, .int ((j : Int) - 3)⟩
  | x => ⟨3, j, x⟩
def stepTold (nd : Nat → Nd) (len : Nat) (out : Nat → Int) (told : Nat → List Ent) (j : Nat) : List Ent :=
  ⟨0, j, .str (Str.ofString "")⟩ :: if (nd j).early ≠ 0 then [] else
    ⟨1, j, .str (textOf j)⟩ :: (kidsTold nd out told j (len - (j + 1)) (j + 1) ++ shownOf (nd j) j :: if stepOut nd len out j ≠ 0 then [] else [⟨4, j, .none⟩])
def outF (nd : Nat → Nd) (len : Nat) : Nat → Nat → Int
  | 0, _ => 0
  | f + 1, j => stepOut nd len (outF nd len f) j
def toldF (nd : Nat → Nd) (len : Nat) : Nat → Nat → List Ent
  | 0, _ => []
  | f + 1, j => stepTold nd len (outF nd len f) (toldF nd len f) j
def out (nd : Nat → Nd) (len j : Nat) : Int := outF nd len len j
def told (nd : Nat → Nd) (len j : Nat) : List Ent := toldF nd len len j

section
variable {nd : Nat → Nd} {len : Nat} {u u' : Nat → Int} {t t' : Nat → List Ent} {j : Nat} {own : Int}
theorem kidsOut_congr : ∀ {k o : Nat}, (∀ i, o ≤ i → i < o + k → u i = u' i) → kidsOut nd u j own k o = kidsOut nd u' j own k o
  | 0, _, _ => rfl
  | k + 1, o, h => by
    unfold kidsOut
    rw [h o (Nat.le_refl _) (by omega), kidsOut_congr (k := k) (o := o + 1) fun i h1 h2 => h i (by omega) (by omega)]
theorem kidsTold_congr : ∀ {k o : Nat}, (∀ i, o ≤ i → i < o + k → u i = u' i ∧ t i = t' i) → kidsTold nd u t j k o = kidsTold nd u' t' j k o
  | 0, _, _ => rfl
  | k + 1, o, h => by
    unfold kidsTold
    rw [(h o (Nat.le_refl _) (by omega)).1, (h o (Nat.le_refl _) (by omega)).2, kidsTold_congr (k := k) (o := o + 1) fun i h1 h2 => h i (by omega) (by omega)]
theorem stepOut_congr (h : ∀ i, j < i → i < len → u i = u' i) : stepOut nd len u j = stepOut nd len u' j := by
  unfold stepOut
  rw [kidsOut_congr (u' := u') fun i h1 h2 => h i (by omega) (by omega)]
theorem stepTold_congr (h : ∀ i, j < i → i < len → u i = u' i ∧ t i = t' i) : stepTold nd len u t j = stepTold nd len u' t' j := by
  unfold stepTold
  rw [stepOut_congr fun i h1 h2 => (h i h1 h2).1, kidsTold_congr (u' := u') (t' := t') fun i h1 h2 => h i (by omega) (by omega)]
theorem fuel : ∀ (f f' j : Nat), j < len → len ≤ j + f → len ≤ j + f' → outF nd len f j = outF nd len f' j ∧ toldF nd len f j = toldF nd len f' j
  | 0, _, _, h, h1, _ => by omega
  | _ + 1, 0, _, h, _, h2 => by omega
  | f + 1, f' + 1, j, h, h1, h2 => ⟨stepOut_congr fun i a b => (fuel f f' i b (by omega) (by omega)).1, stepTold_congr fun i a b => fuel f f' i b (by omega) (by omega)⟩
theorem out_step (h : j < len) : out nd len j = stepOut nd len (out nd len) j := by
  unfold out
  rw [(fuel len (len + 1) j h (by omega) (by omega)).1]
  rfl
theorem told_step (h : j < len) : told nd len j = stepTold nd len (out nd len) (told nd len) j := by
  unfold told
  rw [(fuel len (len + 1) j h (by omega) (by omega)).2]
  rfl

theorem kidsOut_range (ho : 0 ≤ own ∧ own ≤ 3) : ∀ {k o : Nat}, (∀ i, o ≤ i → i < o + k → 0 ≤ u i ∧ u i ≤ 3) → 0 ≤ kidsOut nd u j own k o ∧ kidsOut nd u j own k o ≤ 3
  | 0, _, _ => ho
  | k + 1, o, h => by
    have a := h o (Nat.le_refl _) (by omega)
    have b := kidsOut_range ho (k := k) (o := o + 1) fun i h1 h2 => h i (by omega) (by omega)
    unfold kidsOut
    split
    · split
      · exact a
      · exact b
    · exact b
theorem out_range (hn : ∀ i, i < len → (nd i).Ok) : ∀ (d j : Nat), len ≤ j + d → j < len → 0 ≤ out nd len j ∧ out nd len j ≤ 3
  | 0, j, h1, h2 => by omega
  | d + 1, j, h1, h2 => by
    rw [out_step h2]
    have n := hn j h2
    have k := kidsOut_range (nd := nd) (u := out nd len) (j := j) n.own (k := len - (j + 1)) (o := j + 1) fun i a b => out_range hn d i (by omega) (by omega)
    unfold stepOut
    split
    · exact n.early
    · split
      · exact n.late
      · split
        · decide
        · exact k
theorem kidsTold_len : ∀ {k o : Nat}, (∀ i, o ≤ i → i < o + k → (t i).length + 4 ≤ 8 * 2 ^ (o + k - 1 - i)) → (kidsTold nd u t j k o).length + 8 ≤ 8 * 2 ^ k
  | 0, _, _ => by simp [kidsTold]
  | k + 1, o, h => by
    have a := h o (Nat.le_refl _) (by omega)
    have b := kidsTold_len (k := k) (o := o + 1) fun i h1 h2 => by
      have := h i (by omega) (by omega)
      rwa [ar_3 o k i] at this
    rw [ar_4 o k] at a
    have e : 2 ^ (k + 1) = 2 * 2 ^ k := by rw [Nat.pow_succ]; omega
    unfold kidsTold
    split
    · rw [List.length_append]
      split
      · simp only [List.length_nil]; omega
      · omega
    · omega
theorem told_len : ∀ (d j : Nat), len ≤ j + d → j < len → (told nd len j).length + 4 ≤ 8 * 2 ^ (len - 1 - j)
  | 0, j, h1, h2 => by omega
  | d + 1, j, h1, h2 => by
    have k := kidsTold_len (nd := nd) (u := out nd len) (t := told nd len) (j := j) (k := len - (j + 1)) (o := j + 1) fun i a b => by
      have := told_len d i (by omega) (by omega)
      rwa [ar_1 h2]
    have e : 1 ≤ 2 ^ (len - 1 - j) := Nat.one_le_two_pow
    rw [told_step h2]
    unfold stepTold
    rw [ar_2 len j] at k ⊢
    split
    · simp only [List.length_cons, List.length_nil]; omega
    · simp only [List.length_cons, List.length_append]
      split
      · simp only [List.length_nil]; omega
      · simp only [List.length_cons, List.length_nil]; omega
end

/-! ## .. and in the heap -/
def NdIs (h : Heap) (t : Addr) (d : Nd) : Prop := ∃ t1 t2 t3 x t5 t6, h.IsTuple t #[.int d.parent t1, .int d.own t2, .int d.entry t3, x, .int d.late t5, .int d.early t6] ∧ d.place.Is x
def NodesIs (h : Heap) (nl : Addr) (nd : Nat → Nd) (len : Nat) : Prop := ∃ its, h.IsList nl its ∧ its.size = len ∧ ∀ i, i < len → ∃ t, its[i]? = some (.ref t) ∧ NdIs h t (nd i)
theorem NodesIs.imp {h h' : Heap} {nl : Addr} {nd : Nat → Nd} {len : Nat} (k : ∀ b o, h.get? b = some o → (∀ vs, o.data ≠ .fields vs) → (o.cls = .type "tuple" ∨ b = nl) → ∃ sl, h'.get? b = some { o with slots := sl }) : NodesIs h nl nd len → NodesIs h' nl nd len := by
  rintro ⟨its, ⟨o, ho, hc, n, hd⟩, hs, ha⟩
  obtain ⟨sl, q⟩ := k nl o ho (fun vs q => by rw [hd] at q; cases q) (.inr rfl)
  refine ⟨its, ⟨_, q, hc, n, hd⟩, hs, fun i hi => ?_⟩
  obtain ⟨t, e, t1, t2, t3, x, t5, t6, ⟨o', ho', hc', n', hd'⟩, hx⟩ := ha i hi
  obtain ⟨sl', q'⟩ := k t o' ho' (fun vs q => by rw [hd'] at q; cases q) (.inl hc')
  exact ⟨t, e, t1, t2, t3, x, t5, t6, ⟨_, q', hc', n', hd'⟩, hx⟩
theorem NodesIs.keeps {S X : List Addr} {h h' : Heap} {nl : Addr} {nd : Nat → Nd} {len : Nat} (k : Keeps S X h h') (hnl : nl ∉ X) (hX : ∀ x ∈ X, ∀ o, h.get? x = some o → o.cls ≠ .type "tuple") : NodesIs h nl nd len → NodesIs h' nl nd len :=
  NodesIs.imp fun b o ho hn q => k.slo b o ho (fun m => q.elim (fun q => hX b m o ho q) fun q => hnl (q ▸ m)) hn
theorem NodesIs.fr {g h : Heap} {L : Addr} {m : Str → Option Value} {nl : Addr} {nd : Nat → Nd} {len : Nat} (F : Fr g L h m) : NodesIs g nl nd len → NodesIs h nl nd len :=
  NodesIs.imp fun b o ho _ _ => ⟨o.slots, F.keep b o ho⟩
theorem NodesIs.ground {h : Heap} {nl : Addr} {nd : Nat → Nd} {len : Nat} {X : List Addr} (hnl : nl ∉ X) (hX : ∀ x ∈ X, ∀ o, h.get? x = some o → o.cls ≠ .type "tuple") : NodesIs h nl nd len → NodesIs (hideAll h X) nl nd len :=
  NodesIs.imp fun b o ho hn q => ⟨o.slots, hideAll_get _ ho fun m => q.elim (fun q => hX b m o ho q) fun q => hnl (q ▸ m)⟩

section
variable {prog : Program} {w : World} {A A₀ : Around} {outer : List Env} {s : Shared} {E : Value → Shared → Prop} {Q : Value → Shared → Prop} {g B : Heap} {L : Addr} {m : Str → Option Value} {news : List (Addr × Obj)}
  {nl : Addr} {nd : Nat → Nd} {len : Nat}
theorem nodes_item {value slice : Expr} {k : Int} {u : Tok} (F : Fr g L s.heap m) (N : NodesIs g nl nd len) (h0 : 0 ≤ k) (h1 : k < len) (hlen : len ≤ 100) (h : ∀ t, NdIs g t (nd k.toNat) → Q (.ref t) s)
    (hs : subscripted slice false (.ref nl) (.int k u) = operate [.ref nl, .int k u] (getItem (.ref nl) (.int k u)) := by with_unfolding_all rfl) :
    wpAny (model prog w) A (subscriptTail value slice (.ref nl) (.int k u)) Q E s := by
  obtain ⟨its, hl, hz, ha⟩ := N
  obtain ⟨t, e, d⟩ := ha k.toNat (by omega)
  have hl' : s.heap.IsList nl its := let ⟨o, ho, r⟩ := hl; ⟨o, F.keep _ _ ho, r⟩
  exact tail_any hl'.typeIs slot_list_getitem.lookup (wpAny_getItem_list hl' h0 (by omega) e (h t d)) hs
theorem nd_item {value slice : Expr} {t : Addr} {d : Nd} {u : Tok} (F : Fr g L s.heap m) (N : NdIs g t d) (h : ∀ tk, Q (.int d.parent tk) s)
    (hs : subscripted slice false (.ref t) (.int 0 u) = operate [.ref t, .int 0 u] (getItem (.ref t) (.int 0 u)) := by with_unfolding_all rfl) :
    wpAny (model prog w) A (subscriptTail value slice (.ref t) (.int 0 u)) Q E s := by
  obtain ⟨t1, t2, t3, x, t5, t6, hl, hx⟩ := N
  have hl' : s.heap.IsTuple t _ := let ⟨o, ho, r⟩ := hl; ⟨o, F.keep _ _ ho, r⟩
  exact tail_any (T := "tuple") (let ⟨o, ho, hc, _⟩ := hl'; ⟨o, ho, hc⟩) slot_tuple_getitem.lookup (getItem_tuple hl' (by decide) (by decide) (j := 0) rfl rfl (h t1)) hs
theorem nodes_len (F : Fr g L s.heap m) (N : NodesIs g nl nd len) (hlen : len ≤ 100) (h : Q (.int len (s.toks + 1)) { s with toks := s.toks + 1 + 1 }) : wpAny (model prog w) A (call (.builtin "len") [.ref nl]) Q E s := by
  obtain ⟨its, hl, hz, ha⟩ := N
  have hl' : s.heap.IsList nl its := let ⟨o, ho, r⟩ := hl; ⟨o, F.keep _ _ ho, r⟩
  exact kun_lenL hl' (by rw [hz]) (by omega) h
abbrev rangeObj (a b c : Int) (t u v : Tok) : Obj := { cls := .type "range", dict := none, data := .fields #[.int a t, .int b u, .int c v], slots := #[] }
theorem range_K {a b : Int} {t u : Tok} (F : Fr g L s.heap m) (N : News g L s.heap news)
    (h : ∀ r v h' tk, Fr g L h' m → News g L h' ((r, rangeObj a b 1 t u v) :: news) → Q (.ref r) { s with heap := h', toks := tk }) : wpAny (model prog w) A (call (.type "range") [.int a t, .int b u]) Q E s := by
  refine call_range_2 ?_
  have lt : L < s.heap.objs.size := F.ns.lt
  refine h _ s.toks _ _ (Fr.on F fun b o e => Heap.get?_push_of_some _ e) fun q hq => ?_
  rcases List.mem_cons.mp hq with rfl | hq
  · exact ⟨Heap.get?_push_size _ rfl, Nat.ne_of_gt lt, Heap.get?_none_of_le (Nat.le_trans F.above (Nat.le_of_lt lt))⟩
  · exact ⟨Heap.get?_push_of_some _ (N q hq).1, (N q hq).2⟩
end

/-- the walk stands here -/
def Held (p : Prop) : Prop := p
theorem held {p : Prop} (h : p) : Held p := h
/-! ## a loop over a range, where the ground may turn -/
abbrev iterObj (x left step : Int) : Obj := { cls := .type "range_iterator", dict := none, data := .fields #[rawInt x, rawInt left, rawInt step], slots := #[] }
section
variable {prog : Program} {w : World} {A : Around} {E : Value → Shared → Prop} {s : Shared} {env : Env}
theorem range_loop {R : Result → Shared → Prop} {x : Str} {px : Pos} {body : List Stmt} {it : Addr} {a : Int} {n : Nat} (J : Nat → Heap → Prop)
    (hh : A.handled = none) (hx : env.kindOf x = some .local) (hp : (env.scope.kind == .class || (env.scope.kind == .module && env.locals != env.globals)) = false) (hIL : it ≠ env.locals)
    (h0 : J 0 s.heap) (hit : IsRangeIter s.heap it a n 1)
    (hJ : ∀ i h h', J i h → (∃ o vs, h.get? it = some o ∧ o.data = .fields vs ∧ o.cls = .type "range_iterator") → Heap.ExtBut it h h' → J i h') (hns : ∀ i h, J i h → ∃ m, h.Ns env.locals m)
    (step : ∀ i tk h m s₁, i < n → J i h → IsRangeIter h it (a + (i : Nat) + 1) ((n : Int) - (i : Nat) - 1) 1 → h.Ns env.locals m → s₁.heap.Ns env.locals (fun y => if y = x then some (.int (a + (i : Nat)) tk) else m y) → Heap.SameBut env.locals h s₁.heap →
      (∃ h₁ t₁, s₁ = { s with heap := h₁, toks := t₁ }) →
      wpAny (model prog w) A (execs body env) (fun f s₂ => match f with
        | .ret v => R (.ok (.ret v)) s₂
        | .brk => R (.ok .next) s₂
        | _ => Held ((∃ h₁ t₁, s₂ = { s with heap := h₁, toks := t₁ }) ∧ IsRangeIter s₂.heap it (a + (i : Nat) + 1) ((n : Int) - (i : Nat) - 1) 1 ∧ J (i + 1) s₂.heap)) (notedBy (model prog w) A env fun e s' => R (.error e) s') s₁)
    (hR : ∀ h' tk, J n h' → R (.ok .next) { s with heap := h', toks := tk }) :
    codeAny (model prog w) A (.forLoop (.Name x px) (.ref it) body [] env) R s := by
  refine codeAny_forLoop (fun k s' => ∃ h' tk i, s' = { s with heap := h', toks := tk } ∧ IsRangeIter h' it (a + (i : Nat)) ((n : Int) - (i : Nat)) 1 ∧ J i h' ∧ i ≤ n ∧ k = n + 1 - i) ?_ (n + 1) ⟨s.heap, s.toks, 0, rfl, by simpa using hit, h0, Nat.zero_le _, rfl⟩
  rintro k s' ⟨h', tk, i, rfl, hit', hJ', hi, rfl⟩
  by_cases hlt : i < n
  · refine wpAny_pyNext_range_item hit' (by omega) fun h₁ hit₁ hs₁ => ?_
    have J₁ := hJ i h' h₁ hJ' ⟨_, _, hit', rfl, rfl⟩ hs₁.extBut
    obtain ⟨m, hm⟩ := hns i h₁ J₁
    refine wpAny_assign_Name (wpAny_storeName_local hx hm (fun h₂ hn₂ hs₂ => ?_) hp)
    refine wpAny_mono (step i _ h₁ m _ hlt J₁ hit₁ hm hn₂ hs₂ ⟨_, _, rfl⟩) (fun f s₃ h₃ => ?_) fun _ _ e => e
    cases f with
    | ret v => exact h₃
    | brk => exact h₃
    | next =>
      obtain ⟨⟨h₃', tk₃, rfl⟩, hit₃, hJ₃⟩ := h₃
      refine ⟨n + 1 - (i + 1), ar_7 hlt, h₃', tk₃, i + 1, rfl, ?_, hJ₃, hlt, rfl⟩
      have e1 : a + ((i + 1 : Nat) : Int) = a + (i : Int) + 1 := by push_cast; omega
      have e2 : (n : Int) - ((i + 1 : Nat) : Int) = (n : Int) - (i : Int) - 1 := by push_cast; omega
      rw [e1, e2]
      exact hit₃
    | cont =>
      obtain ⟨⟨h₃', tk₃, rfl⟩, hit₃, hJ₃⟩ := h₃
      refine ⟨n + 1 - (i + 1), ar_7 hlt, h₃', tk₃, i + 1, rfl, ?_, hJ₃, hlt, rfl⟩
      have e1 : a + ((i + 1 : Nat) : Int) = a + (i : Int) + 1 := by push_cast; omega
      have e2 : (n : Int) - ((i + 1 : Nat) : Int) = (n : Int) - (i : Int) - 1 := by push_cast; omega
      rw [e1, e2]
      exact hit₃
  · have hin : i = n := by omega
    subst hin
    refine wpAny_pyNext_range_end hh hit' (by omega) fun h₁ he₁ => wpAny_execs_nil ?_
    exact hR h₁ tk (hJ i h' h₁ hJ' ⟨_, _, hit', rfl, rfl⟩ he₁)
end

/-! F7 -/

abbrev tabOf (c1 c2 c3 c4 c5 : Addr) : Obj := tabObj #[rawInt 49, rawInt 4, .ref c1, rawInt 56, rawInt 4, .ref c2, rawInt 60, rawInt 4, .ref c3, rawInt 64, rawInt 4, .ref c4, rawInt 68, rawInt 4, .ref c5]
structure TabAre (h : Heap) (c1 c2 c3 c4 c5 : Addr) : Prop where
  at_ : h.get? 72 = some (tabOf c1 c2 c3 c4 c5)
  c1 : h.CodeRec (.ref c1) (Str.ofString "_law_do.<locals>.inside")
  c2 : h.CodeRec (.ref c2) (Str.ofString "_law_do.<locals>.inside_of")
  c3 : h.CodeRec (.ref c3) (Str.ofString "_law_do.<locals>.dumped")
  c4 : h.CodeRec (.ref c4) (Str.ofString "_law_do.<locals>.printed")
  c5 : h.CodeRec (.ref c5) (Str.ofString "_law_do.<locals>.maker")
def FullTab (h : Heap) : Prop := ∃ c1 c2 c3 c4 c5, TabAre h c1 c2 c3 c4 c5
theorem FullTab.of {h h' : Heap} (k : ∀ b o vs, h.get? b = some o → o.data = .fields vs → o.cls = .none ∨ (∃ q t, vs[1]? = some (.str q t)) → h'.get? b = some o) : FullTab h → FullTab h' := by
  have kc : ∀ {c : Addr} {q : Str}, h.CodeRec (.ref c) q → h'.CodeRec (.ref c) q := fun ⟨a, o, vs, t, r1, ho, hd, hv⟩ => ⟨a, o, vs, t, r1, k _ _ _ ho hd (.inr ⟨_, _, hv⟩), hd, hv⟩
  rintro ⟨c1, c2, c3, c4, c5, x⟩
  exact ⟨c1, c2, c3, c4, c5, k _ _ _ x.at_ rfl (.inl rfl), kc x.c1, kc x.c2, kc x.c3, kc x.c4, kc x.c5⟩
theorem FullTab.keeps {B h h' : Heap} {outer : List Env} {X : List Addr} (k : Keeps (fs outer) X h h') (ff : h.FunFrames B outer) (hX : ∀ x ∈ X, ∀ o, h.get? x = some o → ∀ vs, o.data ≠ .fields vs) : FullTab h → FullTab h' :=
  FullTab.of fun b o vs ho hd _ => k.obj b o ho (fun m => hX b m o ho vs hd) fun m => by
    obtain ⟨_, o', ho', hn⟩ := ff.mem m
    rw [ho] at ho'; cases ho'; exact hn _ hd
theorem FullTab.fr {g h : Heap} {L : Addr} {m : Str → Option Value} (F : Fr g L h m) : FullTab g → FullTab h := FullTab.of fun b o vs ho _ _ => F.keep b o ho
theorem FullTab.ground {h : Heap} {X : List Addr} (hX : ∀ x ∈ X, ∀ o, h.get? x = some o → ∀ vs, o.data ≠ .fields vs) : FullTab h → FullTab (hideAll h X) :=
  FullTab.of fun b o vs ho hd _ => hideAll_get _ ho fun m => hX b m o ho vs hd

theorem EntIs.seq {h h' : Heap} {v : Value} {e : Ent} (k : ∀ b o its n, h.get? b = some o → o.data = .seq its n → o.cls = .type "tuple" → h'.get? b = some o) : EntIs h v e → EntIs h' v e := by
  rintro ⟨t, o, nn, t1, t2, x, rfl, ho, hc, hd, hx⟩
  exact ⟨t, o, nn, t1, t2, x, rfl, k _ _ _ _ ho hd hc, hc, hd, hx⟩
theorem LogIs.seq {h h' : Heap} {lg : Addr} {es : List Ent} (k : ∀ b o its n, h.get? b = some o → o.data = .seq its n → h'.get? b = some o) : LogIs h lg es → LogIs h' lg es
  | ⟨its, n, q, r⟩ => ⟨its, n, k _ _ _ _ q rfl, r.imp fun _ _ => EntIs.seq fun b o its n h1 h2 _ => k b o its n h1 h2⟩
theorem LogIs.keeps {S X : List Addr} {h h' : Heap} {lg : Addr} {es : List Ent} (k : Keeps S X h h') (hX : ∀ x ∈ X, ∀ o, h.get? x = some o → o.cls ≠ .type "tuple") (hl : lg ∉ X) (hs : lg ∉ S) : LogIs h lg es → LogIs h' lg es
  | ⟨its, n, q, r⟩ => ⟨its, n, k.obj _ _ q hl hs, r.imp fun _ _ => EntIs.keeps k hX⟩
/-- the log, one entry longer -/
theorem log_pushed {h h₂ g : Heap} {lg L t : Addr} {m : Str → Option Value} {its : Array Value} {n n' nn : Nat} {t1 t2 : Tok} {x : Value} {es : List Ent} {e : Ent} (hlo : h.get? lg = some (listOf its n)) (hit : Ents h its.toList es)
    (hg : g = hideAll h ([(lg, listOf its n)].map (·.1))) (F : Fr g L h₂ m) (hl : h₂.get? lg = some (listOf (its.push (.ref t)) n')) (ht : h₂.get? t = some { cls := .type "tuple", data := .seq #[.int e.k t1, .int e.n t2, x] nn }) (hx : e.x.Is x) : LogIs h₂ lg (es ++ [e]) := by
  refine ⟨_, n', hl, ?_⟩
  rw [Array.toList_push]
  refine Ents.snoc ⟨t, _, nn, t1, t2, x, rfl, ht, rfl, rfl, hx⟩ (hit.imp fun v e => EntIs.seq fun b o its' n e hd hc => F.keep b o (hg ▸ hideAll_get _ e fun q => ?_))
  cases List.mem_singleton.mp q
  rw [hlo] at e; cases e
  exact absurd (Value.type.inj hc) (by decide)

/-- what is shown of a call of _law_do with a full table -/
def DoOk (prog : Program) (w : World) (B : Heap) (nd : Nat → Nd) (len j : Nat) : Prop :=
  ∀ {A : Around} {outer : List Env} {s : Shared} {Q E : Value → Shared → Prop} {lg nl : Addr} {es : List Ent} {tj : Tok}, A.frames = some outer → B.StaysIn s.heap → s.heap.FunFrames B outer → (B.get? lg = none ∧ lg ∉ fs outer) → A.handled = none →
    A.depth + (50 * (len - j) + 60) < recursionLimit → A.units + (200 * (len - j) + 400) < cLine → NodesIs s.heap nl nd len → nl ≠ lg → FullTab s.heap → LogIs s.heap lg es → es.length + (told nd len j).length ≤ 100000 →
    (out nd len j = 0 → ∀ h' tk', Keeps (fs outer) [lg] s.heap h' → LogIs h' lg (es ++ told nd len j) → Q .none { s with heap := h', toks := tk' }) →
    (out nd len j ≠ 0 → ∀ h' tk' e, Raised outer [lg] s.heap h' e (excOf (out nd len j)) → LogIs h' lg (es ++ told nd len j) → E (.ref e) { s with heap := h', toks := tk' }) →
    wpAny (model prog w) A (call (.ref 77) [.int j tj, .ref nl, .ref lg]) Q E s

section
variable {prog : Program} {w : World} {A : Around} {E : Value → Shared → Prop} {s : Shared} {env : Env}
theorem hold_For {t it : Expr} {b o : List Stmt} {pos : Pos} {Q : Flow → Shared → Prop} (h : Held (wpAny (model prog w) A (exec (.For t it b o pos) env) Q E s)) : wpAny (model prog w) A (exec (.For t it b o pos) env) Q E s := h
theorem hold_call {f : Value} {vs : List Value} {Q : Value → Shared → Prop} (h : Held (wpAny (model prog w) A (call f vs) Q E s)) : wpAny (model prog w) A (call f vs) Q E s := h
/-- a for over a range, from the iterator on -/
theorem For_range {x : Str} {px pos : Pos} {iter : Expr} {body : List Stmt} {Q : Flow → Shared → Prop}
    (h : wpAny (model prog w) A (eval iter env) (fun r s₁ => Held (∃ R a b t u v, r = .ref R ∧ IsRange s₁.heap R a b 1 t u v ∧ Builtin.Range.small a b 1 = true ∧
      codeAny (model prog w) A (.forLoop (.Name x px) (.ref s₁.heap.objs.size) body [] env) (fun r s' => match r with | .ok f => Q f s' | .error e => cameBackBy (model prog w) A env E e s')
        { s₁ with heap := s₁.heap.push (iterObj a (Builtin.Range.rangeSize a b 1) 1) })) E s)
    (hs : ∀ x, foldedSetIterable iter env x = pure x := by intro _; rfl) : wpAny (model prog w) A (exec (.For (.Name x px) iter body [] pos) env) Q E s := by
  refine wpAny_For (wpAny_mono h (fun r s₁ q => ?_) fun _ _ e => e) hs
  obtain ⟨R, a, b, t, u, v, rfl, hr, hsm, q⟩ := q
  exact wpAny_pyIter_range hr hsm q
end

/-! F8 -/

section
variable {prog : Program} {w : World} {p : Program} {loose : List Str} {mean : ExcName → Option Value} {mg mb : Str → Option Value} {B : Heap} {A A₀ : Around} {outer : List Env} {s : Shared} {Q E : Value → Shared → Prop}
  {g : Heap} {L : Addr} {m : Str → Option Value} {env : Env} {news : List (Addr × Obj)}
theorem raise_atK (b : Base w p loose mean mg mb B) (Bw : Below A₀ B outer g) (F : Fr g L s.heap m) (N : News g L s.heap news) (hA : A.frames = some (env :: outer)) (hf : env.frame = some L) (hke : env.scope.kind = .function) (hh : HandOk g A.handled)
    (hroom : A.depth + 2 < recursionLimit) (hun : A.units + 40 < cLine) {k : Int} {tk : Tok} (hk : 0 ≤ k ∧ k ≤ 3)
    (ret : k = 0 → ∀ h' tk', (∀ b o, s.heap.get? b = some o → h'.get? b = some o) → Fr g L h' m → News g L h' news → Q .none { s with heap := h', toks := tk' })
    (exc : k ≠ 0 → ∀ h' tk' e, Fr g L s.heap m → News g L s.heap news → Raised (env :: outer) [] s.heap h' e (excOf k) → E (.ref e) { s with heap := h', toks := tk' }) :
    wpAny (model prog w) A (call (.ref 63) [.int k tk]) Q E s :=
  have P := pushX Bw F hf hke
  raise_spec b hA P.stays P.frames (hh.keeps fun e x q => q.of_keep F.keep) hroom hun hk (fun hk h' tk' kp => ret hk h' tk' kp (Fr.on F kp) fun q hq => ⟨kp _ _ (N q hq).1, (N q hq).2⟩) fun hk h' tk' e R => exc hk h' tk' e F N R
end
section
variable {prog : Program} {w : World} {p : Program} {loose : List Str} {mean : ExcName → Option Value} {mg mb : Str → Option Value} {B : Heap} {A : Around} {outer : List Env} {s : Shared} {Q E : Value → Shared → Prop}
  {v : NodeV} {cm : Str → Addr} {tn to tl te : Tok} {es : List Ent} {nd : Nat → Nd} {len j : Nat}

/-- what holds between two turns of the loop in inside: the rest that is still to be told, and the whole -/
def InvI (A₀ : Around) (B g : Heap) (outer : List Env) (L lg : Addr) (rest all : List Ent) (h : Heap) : Prop :=
  ∃ g' m' lo es', Keeps (fs outer) [] g g' ∧ Fr g' L h m' ∧ Below A₀ B outer g' ∧ (∀ b, g.get? b = none → g'.get? b = none) ∧ News g' L h [(lg, lo)] ∧ LogIs h lg es' ∧ es' ++ rest = all
theorem inside_spec (b : Base w p loose mean mg mb B) (V : NodeAt w s.heap v cm tn to tl te) (hst : A.frames = some outer) (hB : B.StaysIn s.heap) (hff : s.heap.FunFrames B outer) (hlg : B.get? v.lg = none ∧ v.lg ∉ fs outer)
    (hA : A.handled = none) (hroom : A.depth + (50 * (len - (j + 1)) + 80) < recursionLimit) (hun : A.units + (200 * (len - (j + 1)) + 440) < cLine) (hN : NodesIs s.heap v.nl nd len) (hnl : v.nl ≠ v.lg) (hT : FullTab s.heap) (hlen : len ≤ 100)
    (hj : v.n = (j : Int)) (hjl : j < len) (hown : v.own = (nd j).own) (hok : ∀ i, i < len → (nd i).Ok) (ih : ∀ i, j < i → i < len → DoOk prog w B nd len i)
    (hlog : LogIs s.heap v.lg es) {x : EV} {u : Value} (hx : x.Is u) (hes : es.length + 1 + (kidsTold nd (out nd len) (told nd len) j (len - (j + 1)) (j + 1)).length ≤ 100000)
    (ret : kidsOut nd (out nd len) j v.own (len - (j + 1)) (j + 1) = 0 → ∀ h' tk', Keeps (fs outer) [v.lg] s.heap h' → LogIs h' v.lg (es ++ ⟨1, v.n, x⟩ :: kidsTold nd (out nd len) (told nd len) j (len - (j + 1)) (j + 1)) → Q .none { s with heap := h', toks := tk' })
    (exc : kidsOut nd (out nd len) j v.own (len - (j + 1)) (j + 1) ≠ 0 → ∀ h' tk' e, Raised outer [v.lg] s.heap h' e (excOf (kidsOut nd (out nd len) j v.own (len - (j + 1)) (j + 1))) → LogIs h' v.lg (es ++ ⟨1, v.n, x⟩ :: kidsTold nd (out nd len) (told nd len) j (len - (j + 1)) (j + 1)) → E (.ref e) { s with heap := h', toks := tk' }) :
    wpAny (model prog w) A (call (.ref v.fI) [u]) Q E s := by
  have ff : PySem.Challenge.rw_kl0226_01 = PySem.Challenge.rw_kl0226_01 ∧ hd.heap_39 = hd.heap_39 := by
    k_fill
    exact ⟨rfl, rfl⟩
  clear ff
  obtain ⟨fo, nm, qual, params, body, scope, cl, doc, pm, c', ctv, ho, hfo, hcd, ⟨od, fd, stmts, dpos, d1, d2, d3, d4⟩, hcl⟩ := V.kI
  cases Option.some.inj (d1.symm.trans (by k_is))
  cases d2
  cases d3
  cases d4
  clear d1
  have k_log := hcl (Str.ofString "log") (by simp)
  have k_nodes := hcl (Str.ofString "nodes") (by simp)
  have k_number := hcl (Str.ofString "number") (by simp)
  have k_own := hcl (Str.ofString "own") (by simp)
  clear hcl
  obtain ⟨hd, dp, fr, gd, un⟩ := A
  cases hst
  dsimp only at hA hroom hun
  subst hA
  have X₀ := b.X.keeps hB
  obtain ⟨its, nn, hlo, hit⟩ := hlog
  have hop : Open B outer s.heap [(v.lg, listOf its nn)] := fun p hp => by cases List.mem_singleton.mp hp; exact ⟨hlo, hlg⟩
  have hod : ∀ p ∈ [(v.lg, listOf its nn)], s.heap.get? p.1 = some p.2 ∧ Odd p.2 := fun p hp => by cases List.mem_singleton.mp hp; exact ⟨hlo, .list⟩
  refine' enter_k (B := B) (binds := [(Str.ofString "given", u)]) [(v.lg, listOf its nn)] rfl hB hff hop b.T.nolimit ?k1 ?k2 ?k3 ?k4 ?k5 ?k6 ?_ ?k7 ?k8 ?k9 ?k10
  case k1 => exact ho
  case k2 => exact hfo
  case k3 => exact hcd
  case k4 => exact Nat.lt_of_le_of_lt (Nat.le_add_right _ _) hroom
  case k5 => exact BindsTo.of_eq rfl
  case k6 => exact locs rfl
  case k7 => decide
  case k8 => exact rfl
  case k9 => exact rfl
  case k10 => exact rfl
  intro g L h₁ hg hL F N Bw
  have X' := b.X.keeps Bw.stays
  have T' := b.T.keeps Bw.stays
  have V' := V.ground hod
  rw [← hg] at V'
  have v_log := V'.log
  have v_nodes := V'.nodes
  have v_number := V'.number
  have v_own := V'.own
  have hh' : HandOk g none := .inl rfl
  have hsz : its.size ≤ sizeLine := its_fit hit (by omega)
  have hX1 : ∀ z ∈ [(v.lg, listOf its nn)].map (·.1), ∀ o, s.heap.get? z = some o → o.cls ≠ .type "tuple" := fun z hz o q => by
    cases List.mem_singleton.mp hz
    rw [hlo] at q; cases q
    exact fun z => absurd (Value.type.inj z) (by decide)
  have hX2 : ∀ z ∈ [(v.lg, listOf its nn)].map (·.1), ∀ o, s.heap.get? z = some o → ∀ vs, o.data ≠ .fields vs := fun z hz o q vs e => by
    cases List.mem_singleton.mp hz
    rw [hlo] at q; cases q
    cases e
  have hN' : NodesIs g v.nl nd len := hg ▸ hN.ground (by simpa using hnl) hX1
  have hT' : FullTab g := hg ▸ hT.ground hX2
  have hown' : 0 ≤ v.own ∧ v.own ≤ 3 := hown ▸ (hok j hjl).own
  change wpAny _ _ _ _ _ _
  k_fold
  repeat' (first | ((with_reducible show wpAny _ _ (call (Value.ref 77) _) _ _ _); refine hold_call ?_) | ((with_reducible show wpAny _ _ (subscriptTail _ _ (Value.ref _) (Value.int 0 _)) _ _ _); k_dflt (refine' nd_item ?q9F ?q9N ?_ ?q9hs; (case q9F => k_asm); (case q9N => assumption); (case q9hs => with_unfolding_all rfl); k_whole); intro _) | ((with_reducible show wpAny _ _ (subscriptTail _ _ (Value.ref _) (Value.int _ _)) _ _ _); k_dflt (refine' nodes_item ?q9F ?q9N ?q9k0 ?q9k1 ?q9l ?_ ?q9hs; (case q9F => k_asm); (case q9N => assumption); (case q9k0 => first | exact Int.natCast_nonneg _ | with_reducible assumption | omega); (case q9k1 => first | exact Int.ofNat_lt.mpr (by with_reducible assumption) | with_reducible assumption | omega); (case q9l => assumption); (case q9hs => with_unfolding_all rfl); k_whole); intro _ _) | ((with_reducible show wpAny _ _ (call (Value.type "range") _) _ _ _); k_dflt (refine' range_K ?q9F ?q9N ?_; (case q9F => k_asm); (case q9N => k_asm); k_whole); intro _ _ _ _ _ _) | ((with_reducible show wpAny _ _ (call (Value.builtin "len") _) _ _ _); k_dflt (refine' nodes_len ?q9F ?q9N ?q9l ?_; (case q9F => k_asm); (case q9N => assumption); (case q9l => assumption); k_whole)) | ((with_reducible show wpAny _ _ (exec (Stmt.For _ _ _ _ _) _) _ _ _); refine hold_For ?_) | ((with_reducible show wpAny _ _ (call (Value.ref 63) _) _ _ _); k_dflt (refine' raise_atK ?q9b ?q9Bw ?q9F ?q9N ?q9hA ?q9hf ?q9hke ?q9hh ?q9hr ?q9hu ?q9hk ?ret ?exc; (case q9b => assumption); (case q9Bw => assumption); (case q9F => k_asm); (case q9N => k_asm); (case q9hA => exact rfl); (case q9hf => exact rfl); (case q9hke => exact rfl); (case q9hh => assumption); (case q9hr => k_room); (case q9hu => k_room); (case q9hk => assumption); k_whole); (case' ret => (intro _ _ _ _ _ _)); (case' exc => intro _ _ _ _ _ _ _)) | ((with_reducible show wpAny _ _ (eval (Expr.Name _ _) _) _ _ _); k_dflt (refine' nameG ?q9F ?q9c ?q9v ?_ ?q9a ?q9b ?q9d ?q9n; (case q9a => rfl); (case q9b => rfl); (case q9d => decide); (case q9n => decide); (case q9F => k_asm); (case q9c => assumption); (case q9v => assumption); k_whole)) | (k_unfold; (try dsimp only)) | (k_end; wrow_close) | walk1 | (dsimp only; walk1) | (leave1; try dsimp only) | fail "no step")
  rename_i tkc D h0 l1 h₂ F₂ N₂
  refine held (For_range ?_)
  change wpAny _ _ _ _ _ _
  repeat' (first | ((with_reducible show wpAny _ _ (call (Value.ref 77) _) _ _ _); refine hold_call ?_) | ((with_reducible show wpAny _ _ (subscriptTail _ _ (Value.ref _) (Value.int 0 _)) _ _ _); k_dflt (refine' nd_item ?q9F ?q9N ?_ ?q9hs; (case q9F => k_asm); (case q9N => assumption); (case q9hs => with_unfolding_all rfl); k_whole); intro _) | ((with_reducible show wpAny _ _ (subscriptTail _ _ (Value.ref _) (Value.int _ _)) _ _ _); k_dflt (refine' nodes_item ?q9F ?q9N ?q9k0 ?q9k1 ?q9l ?_ ?q9hs; (case q9F => k_asm); (case q9N => assumption); (case q9k0 => first | exact Int.natCast_nonneg _ | with_reducible assumption | omega); (case q9k1 => first | exact Int.ofNat_lt.mpr (by with_reducible assumption) | with_reducible assumption | omega); (case q9l => assumption); (case q9hs => with_unfolding_all rfl); k_whole); intro _ _) | ((with_reducible show wpAny _ _ (call (Value.type "range") _) _ _ _); k_dflt (refine' range_K ?q9F ?q9N ?_; (case q9F => k_asm); (case q9N => k_asm); k_whole); intro _ _ _ _ _ _) | ((with_reducible show wpAny _ _ (call (Value.builtin "len") _) _ _ _); k_dflt (refine' nodes_len ?q9F ?q9N ?q9l ?_; (case q9F => k_asm); (case q9N => assumption); (case q9l => assumption); k_whole)) | ((with_reducible show wpAny _ _ (exec (Stmt.For _ _ _ _ _) _) _ _ _); refine hold_For ?_) | ((with_reducible show wpAny _ _ (call (Value.ref 63) _) _ _ _); k_dflt (refine' raise_atK ?q9b ?q9Bw ?q9F ?q9N ?q9hA ?q9hf ?q9hke ?q9hh ?q9hr ?q9hu ?q9hk ?ret ?exc; (case q9b => assumption); (case q9Bw => assumption); (case q9F => k_asm); (case q9N => k_asm); (case q9hA => exact rfl); (case q9hf => exact rfl); (case q9hke => exact rfl); (case q9hh => assumption); (case q9hr => k_room); (case q9hu => k_room); (case q9hk => assumption); k_whole); (case' ret => (intro _ _ _ _ _ _)); (case' exc => intro _ _ _ _ _ _ _)) | ((with_reducible show wpAny _ _ (eval (Expr.Name _ _) _) _ _ _); k_dflt (refine' nameG ?q9F ?q9c ?q9v ?_ ?q9a ?q9b ?q9d ?q9n; (case q9a => rfl); (case q9b => rfl); (case q9d => decide); (case q9n => decide); (case q9F => k_asm); (case q9c => assumption); (case q9v => assumption); k_whole)) | (k_unfold; (try dsimp only)) | (k_end; wrow_close) | walk1 | (dsimp only; walk1) | (leave1; try dsimp only) | fail "no step")
  rename_i r v' h₃ tk₃ F₃ N₃
  have L₁ : LogIs h₃ v.lg (es ++ [⟨1, v.n, x⟩]) := log_pushed (e := ⟨1, v.n, x⟩) hlo hit hg F₃ (N₃ (v.lg, _) (by k_mem)).1 (N₃ (D, _) (by k_mem)).1 hx
  refine held ⟨r, _, _, _, _, _, rfl, (N₃ _ (List.Mem.head _)).1, by rw [hj]; exact kid_small hjl hlen, ?_⟩
  have hrs : Builtin.Range.rangeSize (v.n + 1) (len : Int) 1 = ((len - (j + 1) : Nat) : Int) := by rw [hj]; exact kid_size j len
  rw [hrs]
  have hit0 : g.get? h₃.objs.size = none := Heap.get?_none_of_le (Nat.le_trans F₃.above (Nat.le_of_lt F₃.ns.lt))
  have hIL : h₃.objs.size ≠ L := Nat.ne_of_gt F₃.ns.lt
  have kp₃ : ∀ b o, h₃.get? b = some o → (h₃.push (iterObj (v.n + 1) ((len - (j + 1) : Nat) : Int) 1)).get? b = some o := fun b o q => Heap.get?_push_of_some _ q
  refine range_loop (n := len - (j + 1)) (a := v.n + 1) (fun i h => InvI { depth := dp, frames := some outer, guards := gd, units := un } B g outer L v.lg (kidsTold nd (out nd len) (told nd len) j (len - (j + 1) - i) (j + 1 + i)) ((es ++ [⟨1, v.n, x⟩]) ++ kidsTold nd (out nd len) (told nd len) j (len - (j + 1)) (j + 1)) h ∧
    kidsOut nd (out nd len) j v.own (len - (j + 1) - i) (j + 1 + i) = kidsOut nd (out nd len) j v.own (len - (j + 1)) (j + 1)) rfl rfl rfl hIL ?h0 (Heap.get?_push_size _ rfl) ?hJ ?hns ?step ?hR
  case h0 => exact ⟨⟨g, _, _, _, .refl _, Fr.on F₃ kp₃, Bw, fun _ q => q, fun q hq => (by cases List.mem_singleton.mp hq; exact ⟨kp₃ _ _ (N₃ (v.lg, _) (by k_mem)).1, (N₃ (v.lg, _) (by k_mem)).2⟩), L₁.seq fun b o _ _ q _ => kp₃ b o q, rfl⟩, rfl⟩
  case hJ =>
    rintro i h h' ⟨⟨g', m', lo, es', kp, F', Bw', np, N', L', eqT⟩, eqO⟩ ⟨o, vs, o1, o2, o3⟩ hx'
    obtain ⟨l1, l2, l3, _⟩ := id L'
    have nlg : v.lg ≠ h₃.objs.size := fun q => by rw [q, o1] at l3; cases l3; cases o2
    refine ⟨⟨g', m', lo, es', kp, ⟨F'.ns.extBut hx' hIL.symm, fun b o e => hx' b o (fun q => by rw [q, np _ hit0] at e; cases e) (F'.keep b o e), F'.above⟩, Bw', np, fun q hq => ?_, L'.seq fun b o' _ _ q q' => hx' b o' (fun z => by rw [z, o1] at q; cases q; rw [o2] at q'; cases q') q, eqT⟩, eqO⟩
    cases List.mem_singleton.mp hq
    exact ⟨hx' _ _ nlg (N' _ (List.mem_singleton_self _)).1, (N' _ (List.mem_singleton_self _)).2⟩
  case hns => exact fun i h ⟨⟨g', m', lo, es', kp, F', _⟩, _⟩ => ⟨m', F'.ns⟩
  case hR =>
    rintro h₄ tk₄ ⟨⟨g', m', lo, es', kp, F', Bw', np, N', L', eqT⟩, eqO⟩
    rw [Nat.sub_self] at eqT eqO
    have eqO' : v.own = kidsOut nd (out nd len) j v.own (len - (j + 1)) (j + 1) := eqO
    have eqT' : es' = (es ++ [⟨1, v.n, x⟩]) ++ kidsTold nd (out nd len) (told nd len) j (len - (j + 1)) (j + 1) := (List.append_nil es').symm.trans eqT
    rw [List.append_assoc, List.singleton_append] at eqT'
    subst eqT'
    have X₂ := b.X.keeps Bw'.stays
    have T₂ := b.T.keeps Bw'.stays
    have V₂ := V'.keeps kp Bw.frames (fun _ q => nomatch q)
    have v2_own := V₂.own
    have hh₂ : HandOk g' none := .inl rfl
    clear V' v_own v_log v_nodes v_number X' T' F₂ F₃ N₂ N₃
    obtain ⟨l1, l2, l3, _⟩ := id L'
    have N'' : News g' L h₄ [(v.lg, W.listOf l1 l2)] := fun q hq => by cases List.mem_singleton.mp hq; exact ⟨l3, (N' _ (List.mem_singleton_self _)).2⟩
    clear N'
    change wpAny _ _ _ _ _ _
    repeat' (first | ((with_reducible show wpAny _ _ (call (Value.ref 77) _) _ _ _); refine hold_call ?_) | ((with_reducible show wpAny _ _ (subscriptTail _ _ (Value.ref _) (Value.int 0 _)) _ _ _); k_dflt (refine' nd_item ?q9F ?q9N ?_ ?q9hs; (case q9F => k_asm); (case q9N => assumption); (case q9hs => with_unfolding_all rfl); k_whole); intro _) | ((with_reducible show wpAny _ _ (subscriptTail _ _ (Value.ref _) (Value.int _ _)) _ _ _); k_dflt (refine' nodes_item ?q9F ?q9N ?q9k0 ?q9k1 ?q9l ?_ ?q9hs; (case q9F => k_asm); (case q9N => assumption); (case q9k0 => first | exact Int.natCast_nonneg _ | with_reducible assumption | omega); (case q9k1 => first | exact Int.ofNat_lt.mpr (by with_reducible assumption) | with_reducible assumption | omega); (case q9l => assumption); (case q9hs => with_unfolding_all rfl); k_whole); intro _ _) | ((with_reducible show wpAny _ _ (call (Value.type "range") _) _ _ _); k_dflt (refine' range_K ?q9F ?q9N ?_; (case q9F => k_asm); (case q9N => k_asm); k_whole); intro _ _ _ _ _ _) | ((with_reducible show wpAny _ _ (call (Value.builtin "len") _) _ _ _); k_dflt (refine' nodes_len ?q9F ?q9N ?q9l ?_; (case q9F => k_asm); (case q9N => assumption); (case q9l => assumption); k_whole)) | ((with_reducible show wpAny _ _ (exec (Stmt.For _ _ _ _ _) _) _ _ _); refine hold_For ?_) | ((with_reducible show wpAny _ _ (call (Value.ref 63) _) _ _ _); k_dflt (refine' raise_atK ?q9b ?q9Bw ?q9F ?q9N ?q9hA ?q9hf ?q9hke ?q9hh ?q9hr ?q9hu ?q9hk ?ret ?exc; (case q9b => assumption); (case q9Bw => assumption); (case q9F => k_asm); (case q9N => k_asm); (case q9hA => exact rfl); (case q9hf => exact rfl); (case q9hke => exact rfl); (case q9hh => assumption); (case q9hr => k_room); (case q9hu => k_room); (case q9hk => assumption); k_whole); (case' ret => (intro _ _ _ _ _ _)); (case' exc => intro _ _ _ _ _ _ _)) | ((with_reducible show wpAny _ _ (eval (Expr.Name _ _) _) _ _ _); k_dflt (refine' nameG ?q9F ?q9c ?q9v ?_ ?q9a ?q9b ?q9d ?q9n; (case q9a => rfl); (case q9b => rfl); (case q9d => decide); (case q9n => decide); (case q9F => k_asm); (case q9c => assumption); (case q9v => assumption); k_whole)) | (k_unfold; (try dsimp only)) | (k_end; wrow_close) | walk1 | (dsimp only; walk1) | (leave1; try dsimp only) | fail "no step")
    case exc hk0 h₆ tk₆ e' F₆ N₆ R' =>
      refine thrown_call (Xn := []) hop hg kp F₆ N₆ Bw' rfl rfl (fun _ q => nomatch q) R' (Tame.list (R'.keeps.obj _ _ l3 (fun q => nomatch q) (news_fs Bw' N₆ rfl (p := (v.lg, _)) (List.mem_singleton_self _)))) fun h₇ q mv => ?_
      refine exc (fun q => hk0 (eqO'.trans q)) h₇ _ e' (eqO' ▸ q) ((L'.keeps (X := []) R'.keeps (fun _ q => nomatch q) (fun q => nomatch q) (news_fs Bw' N₆ rfl (p := (v.lg, _)) (List.mem_singleton_self _))).moves mv (news_fs Bw' N₆ rfl (p := (v.lg, _)) (List.mem_singleton_self _)))
    case ret hk0 h₆ tk₆ kp₆ F₆ N₆ =>
      exact ret (eqO'.symm.trans hk0) h₆ _ (exitR_k hop hg kp F₆ (Tame.list (N₆ _ (List.mem_singleton_self _)).1)) (L'.seq fun b o _ _ q _ => kp₆ b o q)
  case step =>
    rintro i tk h m s₁ hi ⟨⟨g', m', lo, es', kp, F', Bw', np, N', L', eqT⟩, eqO⟩ hit₁ hm hn₂ hs₂ ⟨h₅, tk₅, rfl⟩
    obtain ⟨oL, esL, epL, nL1, nL2, nL3⟩ := id hm
    have F₁ : Fr g' L h m := ⟨hm, F'.keep, F'.above⟩
    have F₅ := F₁.set hn₂ hs₂
    obtain ⟨l1, l2, l3, _⟩ := id L'
    have nlL := (N' _ (List.mem_singleton_self _)).2
    have N₅ : News g' L h₅ [(h₃.objs.size, iterObj (v.n + 1 + (i : Int) + 1) (((len - (j + 1) : Nat) : Int) - (i : Int) - 1) 1), (v.lg, W.listOf l1 l2)] := fun q hq => by
      rcases List.mem_cons.mp hq with rfl | hq
      · exact ⟨(hs₂.2 _ hIL).trans hit₁, hIL, np _ hit0⟩
      · cases List.mem_singleton.mp hq
        exact ⟨(hs₂.2 _ nlL.1).trans l3, nlL⟩
    have L₅ : LogIs h₅ v.lg es' := L'.seq fun b o _ _ q q' => (hs₂.2 b fun z => by rw [z, nL1] at q; cases q; rw [nL2] at q'; cases q').trans q
    have i1 := sub_up hi
    rw [i1] at eqT eqO
    have eK : kidsTold nd (out nd len) (told nd len) j (len - (j + 1) - (i + 1) + 1) (j + 1 + i) = if (nd (j + 1 + i)).parent = j then told nd len (j + 1 + i) ++ (if out nd len (j + 1 + i) ≠ 0 then [] else kidsTold nd (out nd len) (told nd len) j (len - (j + 1) - (i + 1)) (j + 1 + i + 1)) else kidsTold nd (out nd len) (told nd len) j (len - (j + 1) - (i + 1)) (j + 1 + i + 1) := rfl
    have eO : kidsOut nd (out nd len) j v.own (len - (j + 1) - (i + 1) + 1) (j + 1 + i) = if (nd (j + 1 + i)).parent = j then (if out nd len (j + 1 + i) ≠ 0 then out nd len (j + 1 + i) else kidsOut nd (out nd len) j v.own (len - (j + 1) - (i + 1)) (j + 1 + i + 1)) else kidsOut nd (out nd len) j v.own (len - (j + 1) - (i + 1)) (j + 1 + i + 1) := rfl
    rw [eK] at eqT
    rw [eO] at eqO
    have X₂ := b.X.keeps Bw'.stays
    have T₂ := b.T.keeps Bw'.stays
    have V₂ := V'.keeps kp Bw.frames (fun _ q => nomatch q)
    have v2_log := V₂.log
    have v2_nodes := V₂.nodes
    have v2_number := V₂.number
    have hN₂ := hN'.keeps kp (fun q => nomatch q) (fun _ q => nomatch q)
    have hT₂ := hT'.keeps kp Bw.frames (fun _ q => nomatch q)
    have k0 := kid_0 hj i
    have k1 := kid_1 hj hi
    refine wpAny_passesOwn (Thrown.passes rfl rfl) ?_
    clear V' v_own v_log v_nodes v_number X' T' F₂ F₃ N₂ N₃ F₁ hN' hm F' N'
    change wpAny _ _ _ _ _ _
    k_fold
    repeat' (first | ((with_reducible show wpAny _ _ (call (Value.ref 77) _) _ _ _); refine hold_call ?_) | ((with_reducible show wpAny _ _ (subscriptTail _ _ (Value.ref _) (Value.int 0 _)) _ _ _); k_dflt (refine' nd_item ?q9F ?q9N ?_ ?q9hs; (case q9F => k_asm); (case q9N => assumption); (case q9hs => with_unfolding_all rfl); k_whole); intro _) | ((with_reducible show wpAny _ _ (subscriptTail _ _ (Value.ref _) (Value.int _ _)) _ _ _); k_dflt (refine' nodes_item ?q9F ?q9N ?q9k0 ?q9k1 ?q9l ?_ ?q9hs; (case q9F => k_asm); (case q9N => assumption); (case q9k0 => first | exact Int.natCast_nonneg _ | with_reducible assumption | omega); (case q9k1 => first | exact Int.ofNat_lt.mpr (by with_reducible assumption) | with_reducible assumption | omega); (case q9l => assumption); (case q9hs => with_unfolding_all rfl); k_whole); intro _ _) | ((with_reducible show wpAny _ _ (call (Value.type "range") _) _ _ _); k_dflt (refine' range_K ?q9F ?q9N ?_; (case q9F => k_asm); (case q9N => k_asm); k_whole); intro _ _ _ _ _ _) | ((with_reducible show wpAny _ _ (call (Value.builtin "len") _) _ _ _); k_dflt (refine' nodes_len ?q9F ?q9N ?q9l ?_; (case q9F => k_asm); (case q9N => assumption); (case q9l => assumption); k_whole)) | ((with_reducible show wpAny _ _ (exec (Stmt.For _ _ _ _ _) _) _ _ _); refine hold_For ?_) | ((with_reducible show wpAny _ _ (call (Value.ref 63) _) _ _ _); k_dflt (refine' raise_atK ?q9b ?q9Bw ?q9F ?q9N ?q9hA ?q9hf ?q9hke ?q9hh ?q9hr ?q9hu ?q9hk ?ret ?exc; (case q9b => assumption); (case q9Bw => assumption); (case q9F => k_asm); (case q9N => k_asm); (case q9hA => exact rfl); (case q9hf => exact rfl); (case q9hke => exact rfl); (case q9hh => assumption); (case q9hr => k_room); (case q9hu => k_room); (case q9hk => assumption); k_whole); (case' ret => (intro _ _ _ _ _ _)); (case' exc => intro _ _ _ _ _ _ _)) | ((with_reducible show wpAny _ _ (eval (Expr.Name _ _) _) _ _ _); k_dflt (refine' nameG ?q9F ?q9c ?q9v ?_ ?q9a ?q9b ?q9d ?q9n; (case q9a => rfl); (case q9b => rfl); (case q9d => decide); (case q9n => decide); (case q9F => k_asm); (case q9c => assumption); (case q9v => assumption); k_whole)) | (k_unfold; (try dsimp only)) | (k_end; wrow_close) | walk1 | (dsimp only; walk1) | (leave1; try dsimp only) | fail "no step")
    · rename_i t' n' tk' hpar
      have e := kid_int hj i
      have hpar' : (nd (j + 1 + i)).parent = j := by
        rw [kid_nat hj i, hj] at hpar
        exact hpar
      rw [if_pos hpar'] at eqT eqO
      rw [e]
      refine held (ih (j + 1 + i) (kid_gt j i) (kid_lt hi) rfl (fun b o q => F₅.keep b o (Bw'.stays b o q)) (pushX Bw' F₅ rfl rfl).frames ⟨hlg.1, news_fs Bw' N₅ rfl (p := (v.lg, _)) (by k_mem)⟩ rfl (by k_room) (by k_room) (hN₂.fr F₅) hnl (hT₂.fr F₅) L₅ ?len ?ret ?exc)
      case len =>
        have := congrArg List.length eqT
        simp only [List.length_append, List.length_cons, List.length_nil] at this
        omega
      case ret =>
        intro hk0 h' tk' k' l'
        rw [if_neg (fun q => q hk0)] at eqT eqO
        obtain ⟨g₂, t1, F₇, Bw₇, np₇, ld⟩ := back Bw' F₅ N₅ rfl (X := [v.lg]) (fun z hz => by cases List.mem_singleton.mp hz; exact List.mem_map_of_mem (List.Mem.tail _ (List.Mem.head _))) k'
        obtain ⟨l3', l4', l5', _⟩ := id l'
        refine wpAny_execs_nil (wpAny_execs_nil (held ⟨⟨_, _, rfl⟩, ld _ (List.Mem.head _) (fun q => ?_), ⟨g₂, _, W.listOf l3' l4', es' ++ told nd len (j + 1 + i), kp.trans t1, F₇, Bw₇, fun b q => np₇ b (np b q), fun q hq => ?_, l', (List.append_assoc _ _ _).trans eqT⟩, eqO⟩))
        · have q' := List.mem_singleton.mp q
          have z := (congrArg h.get? q').symm.trans hit₁
          rw [l3] at z
          cases congrArg Obj.data (Option.some.inj z)
        · cases List.mem_singleton.mp hq
          exact ⟨l5', nlL.1, np₇ _ nlL.2⟩
      case exc =>
        intro hk0 h' tk' e' R' l'
        rw [if_pos hk0] at eqT eqO
        rw [List.append_nil, List.append_assoc, List.singleton_append] at eqT
        obtain ⟨l3', l4', l5', _⟩ := id l'
        refine thrown_call (Xn := [v.lg]) hop hg kp F₅ N₅ Bw' rfl rfl (fun z hz => by cases List.mem_singleton.mp hz; exact List.mem_map_of_mem (List.Mem.tail _ (List.Mem.head _))) R' (Tame.list l5') fun h₇ q mv => ?_
        exact exc (fun q => hk0 (eqO.trans q)) h₇ _ e' (eqO ▸ q) (eqT ▸ l'.moves mv (news_fs Bw' N₅ rfl (p := (v.lg, _)) (by k_mem)))
    · rename_i t' n' tk' hpar
      have hpar' : ¬ (nd (j + 1 + i)).parent = j := by
        rw [kid_nat hj i, hj] at hpar
        exact hpar
      rw [if_neg hpar'] at eqT eqO
      exact held ⟨⟨_, _, rfl⟩, (N₅ _ (List.Mem.head _)).1, ⟨g', _, _, es', kp, F₅, Bw', np, fun q hq => N₅ q (List.mem_cons_of_mem _ hq), L₅, eqT⟩, eqO⟩
end

/-! F9 -/
section
variable {prog : Program} {w : World} {p : Program} {loose : List Str} {mean : ExcName → Option Value} {mg mb : Str → Option Value} {B : Heap} {A A₀ : Around} {outer : List Env} {s : Shared} {Q E : Value → Shared → Prop}
  {g : Heap} {L : Addr} {m : Str → Option Value} {env : Env} {news : List (Addr × Obj)} {v : NodeV} {cm : Str → Addr} {tn to tl te : Tok} {es : List Ent} {nd : Nat → Nd} {len j : Nat}

theorem inside_at (b : Base w p loose mean mg mb B) (Bw : Below A₀ B outer g) (F : Fr g L s.heap m) (N : News g L s.heap news) (hA : A.frames = some (env :: outer)) (hf : env.frame = some L) (hke : env.scope.kind = .function) {o : Obj} (hm : (v.lg, o) ∈ news)
    (hlg : B.get? v.lg = none) (V : NodeAt w g v cm tn to tl te) (hh : A.handled = none) (hroom : A.depth + (50 * (len - (j + 1)) + 80) < recursionLimit) (hun : A.units + (200 * (len - (j + 1)) + 440) < cLine) (hN : NodesIs g v.nl nd len) (hnl : v.nl ≠ v.lg) (hT : FullTab g) (hlen : len ≤ 100)
    (hj : v.n = (j : Int)) (hjl : j < len) (hown : v.own = (nd j).own) (hok : ∀ i, i < len → (nd i).Ok) (ih : ∀ i, j < i → i < len → DoOk prog w B nd len i)
    (hlog : LogIs s.heap v.lg es) {x : EV} {u : Value} (hx : x.Is u) (hes : es.length + 1 + (kidsTold nd (out nd len) (told nd len) j (len - (j + 1)) (j + 1)).length ≤ 100000)
    (ret : kidsOut nd (out nd len) j v.own (len - (j + 1)) (j + 1) = 0 → ∀ h' tk', Keeps (fs (env :: outer)) [v.lg] s.heap h' → LogIs h' v.lg (es ++ ⟨1, v.n, x⟩ :: kidsTold nd (out nd len) (told nd len) j (len - (j + 1)) (j + 1)) → Q .none { s with heap := h', toks := tk' })
    (exc : kidsOut nd (out nd len) j v.own (len - (j + 1)) (j + 1) ≠ 0 → ∀ h' tk' e, Raised (env :: outer) [v.lg] s.heap h' e (excOf (kidsOut nd (out nd len) j v.own (len - (j + 1)) (j + 1))) → LogIs h' v.lg (es ++ ⟨1, v.n, x⟩ :: kidsTold nd (out nd len) (told nd len) j (len - (j + 1)) (j + 1)) → E (.ref e) { s with heap := h', toks := tk' }) :
    wpAny (model prog w) A (call (.ref v.fI) [u]) Q E s :=
  have P := pushX Bw F hf hke
  inside_spec b (V.fr F) hA P.stays P.frames ⟨hlg, news_fs Bw N hf hm⟩ hh hroom hun (hN.fr F) hnl (hT.fr F) hlen hj hjl hown hok ih hlog hx hes ret exc
end
section
variable {prog : Program} {w : World} {p : Program} {loose : List Str} {mean : ExcName → Option Value} {mg mb : Str → Option Value} {B : Heap} {A : Around} {outer : List Env} {s : Shared} {Q E : Value → Shared → Prop}
  {v : NodeV} {cm : Str → Addr} {tn to tl te : Tok} {es : List Ent} {nd : Nat → Nd} {len j : Nat}

theorem inside_of_spec (b : Base w p loose mean mg mb B) (V : NodeAt w s.heap v cm tn to tl te) (hst : A.frames = some outer) (hB : B.StaysIn s.heap) (hff : s.heap.FunFrames B outer) (hlg : B.get? v.lg = none ∧ v.lg ∉ fs outer)
    (hA : A.handled = none) (hroom : A.depth + (50 * (len - (j + 1)) + 84) < recursionLimit) (hun : A.units + (200 * (len - (j + 1)) + 460) < cLine) (hN : NodesIs s.heap v.nl nd len) (hnl : v.nl ≠ v.lg) (hT : FullTab s.heap) (hlen : len ≤ 100)
    (hj : v.n = (j : Int)) (hjl : j < len) (hown : v.own = (nd j).own) (hok : ∀ i, i < len → (nd i).Ok) (ih : ∀ i, j < i → i < len → DoOk prog w B nd len i)
    (hlog : LogIs s.heap v.lg es) {x : EV} {u : Value} (hx : x.Is u) (hes : es.length + 1 + (kidsTold nd (out nd len) (told nd len) j (len - (j + 1)) (j + 1)).length ≤ 100000)
    (ret : kidsOut nd (out nd len) j v.own (len - (j + 1)) (j + 1) = 0 → ∀ h' tk', Keeps (fs outer) [v.lg] s.heap h' → LogIs h' v.lg (es ++ ⟨1, v.n, x⟩ :: kidsTold nd (out nd len) (told nd len) j (len - (j + 1)) (j + 1)) → Q .none { s with heap := h', toks := tk' })
    (exc : kidsOut nd (out nd len) j v.own (len - (j + 1)) (j + 1) ≠ 0 → ∀ h' tk' e, Raised outer [v.lg] s.heap h' e (excOf (kidsOut nd (out nd len) j v.own (len - (j + 1)) (j + 1))) → LogIs h' v.lg (es ++ ⟨1, v.n, x⟩ :: kidsTold nd (out nd len) (told nd len) j (len - (j + 1)) (j + 1)) → E (.ref e) { s with heap := h', toks := tk' }) :
    wpAny (model prog w) A (call (.ref v.fO) [u, .ref v.wide, .ref v.near]) Q E s := by
  have ff : PySem.Challenge.rw_kl0226_01 = PySem.Challenge.rw_kl0226_01 ∧ hd.heap_39 = hd.heap_39 := by
    k_fill
    exact ⟨rfl, rfl⟩
  clear ff
  obtain ⟨fo, nm, qual, params, body, scope, cl, doc, pm, c', ctv, ho, hfo, hcd, ⟨od, fd, stmts, dpos, d1, d2, d3, d4⟩, hcl⟩ := V.kO
  cases Option.some.inj (d1.symm.trans (by k_is))
  cases d2
  cases d3
  cases d4
  clear d1
  have k_inside := hcl (Str.ofString "inside") (by simp)
  have k_near := hcl (Str.ofString "near") (by simp)
  have k_wide := hcl (Str.ofString "wide") (by simp)
  clear hcl
  obtain ⟨hd, dp, fr, gd, un⟩ := A
  cases hst
  dsimp only at hA hroom hun
  subst hA
  have X₀ := b.X.keeps hB
  obtain ⟨its, nn, hlo, hit⟩ := hlog
  have hop : Open B outer s.heap [(v.lg, listOf its nn)] := fun p hp => by cases List.mem_singleton.mp hp; exact ⟨hlo, hlg⟩
  have hod : ∀ p ∈ [(v.lg, listOf its nn)], s.heap.get? p.1 = some p.2 ∧ Odd p.2 := fun p hp => by cases List.mem_singleton.mp hp; exact ⟨hlo, .list⟩
  refine' enter_k (B := B) (binds := [(Str.ofString "given", u), (Str.ofString "outer", .ref v.wide), (Str.ofString "inner", .ref v.near)]) [(v.lg, listOf its nn)] rfl hB hff hop b.T.nolimit ?k1 ?k2 ?k3 ?k4 ?k5 ?k6 ?_ ?k7 ?k8 ?k9 ?k10
  case k1 => exact ho
  case k2 => exact hfo
  case k3 => exact hcd
  case k4 => exact Nat.lt_of_le_of_lt (Nat.le_add_right _ _) hroom
  case k5 => exact BindsTo.of_eq rfl
  case k6 => exact locs rfl
  case k7 => decide
  case k8 => exact rfl
  case k9 => exact rfl
  case k10 => exact rfl
  intro g L h₁ hg hL F N Bw
  have X' := b.X.keeps Bw.stays
  have T' := b.T.keeps Bw.stays
  have V' := V.ground hod
  rw [← hg] at V'
  have v_inside := V'.inside
  have v_near := V'.near
  have v_wide := V'.wide
  have hsz : its.size ≤ sizeLine := its_fit hit (by omega)
  have hX1 : ∀ z ∈ [(v.lg, listOf its nn)].map (·.1), ∀ o, s.heap.get? z = some o → o.cls ≠ .type "tuple" := fun z hz o q => by
    cases List.mem_singleton.mp hz
    rw [hlo] at q; cases q
    exact fun z => absurd (Value.type.inj z) (by decide)
  have hX2 : ∀ z ∈ [(v.lg, listOf its nn)].map (·.1), ∀ o, s.heap.get? z = some o → ∀ vs, o.data ≠ .fields vs := fun z hz o q vs e => by
    cases List.mem_singleton.mp hz
    rw [hlo] at q; cases q
    cases e
  have hN' : NodesIs g v.nl nd len := hg ▸ hN.ground (by simpa using hnl) hX1
  have hT' : FullTab g := hg ▸ hT.ground hX2
  have kI' := V'.kI
  have hlg' := hlg.1
  have hlog' : LogIs h₁ v.lg es := log_enter hlo hit hg F N
  change wpAny _ _ _ _ _ _
  k_fold
  repeat' (first | ((with_reducible show wpAny _ _ (call (Value.ref (NodeV.fI _)) _) _ _ _); k_dflt (refine' inside_at ?q9b ?q9Bw ?q9F ?q9N ?q9hA ?q9hf ?q9hke ?q9hm ?q9hlg ?q9V ?q9hh ?q9hr ?q9hu ?q9hN ?q9hnl ?q9hT ?q9hlen ?q9hj ?q9hjl ?q9hown ?q9hok ?q9ih ?q9hlog ?q9hx ?q9hes ?ret ?exc; (case q9b => assumption); (case q9Bw => assumption); (case q9F => k_asm); (case q9N => k_asm); (case q9hA => exact rfl); (case q9hf => exact rfl); (case q9hke => exact rfl); (case q9hm => k_mem); (case q9hlg => assumption); (case q9V => assumption); (case q9hh => exact rfl); (case q9hN => assumption); (case q9hnl => assumption); (case q9hT => assumption); (case q9hlen => assumption); (case q9hj => assumption); (case q9hjl => assumption); (case q9hown => assumption); (case q9hok => assumption); (case q9ih => assumption); (case q9hlog => assumption); (case q9hx => assumption); (case q9hes => assumption); (case q9hr => k_room); (case q9hu => k_room); k_whole); (case' ret => intro _ _ _ _ _); (case' exc => intro _ _ _ _ _ _)) | ((with_reducible show wpAny _ _ (callWith _ (Value.ref _) _ _ _) _ _ _); k_dflt (first   | (refine' callWith_F ?q9k1 ?_; (case q9k1 => exact fnat_ground (by k_asm) (by assumption)); k_whole)   | (refine' callWith_F0 ?q9k1 ?_; (case q9k1 => exact fnat_ground (by k_asm) (by assumption)); k_whole; try dsimp only [List.nil_append, List.cons_append]))) | ((with_reducible show wpAny _ _ (call (Value.ref 63) _) _ _ _); k_dflt (refine' raise_at ?q9b ?q9Bw ?q9F ?q9N ?q9hA ?q9hf ?q9hke ?q9hh ?q9hr ?q9hu ?q9hk ?ret ?exc; (case q9b => assumption); (case q9Bw => assumption); (case q9F => k_asm); (case q9N => k_asm); (case q9hA => exact rfl); (case q9hf => exact rfl); (case q9hke => exact rfl); (case q9hh => assumption); (case q9hr => k_room); (case q9hu => k_room); (case q9hk => assumption); k_whole); (case' ret => (intro _ _ _ _ _; (try k_sweep))); (case' exc => intro _ _ _ _ _ _ _)) | ((with_reducible show wpAny _ _ (eval (Expr.Name _ _) _) _ _ _); k_dflt (refine' nameG ?q9F ?q9c ?q9v ?_ ?q9a ?q9b ?q9d ?q9n; (case q9a => rfl); (case q9b => rfl); (case q9d => decide); (case q9n => decide); (case q9F => k_asm); (case q9c => assumption); (case q9v => assumption); k_whole)) | (k_unfold; (try dsimp only)) | (k_end; wrow_close) | walk1 | (dsimp only; walk1) | (leave1; try dsimp only) | fail "no step")
  · rename_i hk0 h₂ _ e' R' l'
    have q1 := l'.at
    obtain ⟨its', n', q1⟩ := q1
    refine thrown_call (Xn := [v.lg]) hop hg (.refl _) F N Bw rfl rfl (fun z hz => by cases List.mem_singleton.mp hz; exact List.mem_map_of_mem (List.mem_singleton_self _)) R' (Tame.list q1) fun h₃ q mv => ?_
    exact exc hk0 h₃ _ e' q (l'.moves mv (news_fs Bw N rfl (List.mem_singleton_self _)))
  · rename_i hk0 h₂ _ k' l'
    obtain ⟨its', n', q1⟩ := l'.at
    obtain ⟨g', t1, F', _⟩ := back Bw F N rfl (X := [v.lg]) (fun z hz => by cases List.mem_singleton.mp hz; exact List.mem_map_of_mem (List.mem_singleton_self _)) k'
    exact ret hk0 h₂ _ (exitR_k hop hg t1 F' (Tame.list q1)) l'
end
section
variable {prog : Program} {w : World} {p : Program} {loose : List Str} {mean : ExcName → Option Value} {mg mb : Str → Option Value} {B : Heap} {A A₀ : Around} {outer : List Env} {s : Shared} {Q E : Value → Shared → Prop}
  {g : Heap} {L : Addr} {m : Str → Option Value} {env : Env} {news : List (Addr × Obj)} {v : NodeV} {cm : Str → Addr} {tn to tl te : Tok} {es : List Ent} {nd : Nat → Nd} {len j : Nat}

theorem inside_of_at (b : Base w p loose mean mg mb B) (Bw : Below A₀ B outer g) (F : Fr g L s.heap m) (N : News g L s.heap news) (hA : A.frames = some (env :: outer)) (hf : env.frame = some L) (hke : env.scope.kind = .function) {o : Obj} (hm : (v.lg, o) ∈ news)
    (hlg : B.get? v.lg = none) (V : NodeAt w g v cm tn to tl te) (hh : A.handled = none) (hroom : A.depth + (50 * (len - (j + 1)) + 84) < recursionLimit) (hun : A.units + (200 * (len - (j + 1)) + 460) < cLine) (hN : NodesIs g v.nl nd len) (hnl : v.nl ≠ v.lg) (hT : FullTab g) (hlen : len ≤ 100)
    (hj : v.n = (j : Int)) (hjl : j < len) (hown : v.own = (nd j).own) (hok : ∀ i, i < len → (nd i).Ok) (ih : ∀ i, j < i → i < len → DoOk prog w B nd len i)
    (hlog : LogIs s.heap v.lg es) {x : EV} {u : Value} (hx : x.Is u) (hes : es.length + 1 + (kidsTold nd (out nd len) (told nd len) j (len - (j + 1)) (j + 1)).length ≤ 100000)
    (ret : kidsOut nd (out nd len) j v.own (len - (j + 1)) (j + 1) = 0 → ∀ h' tk', Keeps (fs (env :: outer)) [v.lg] s.heap h' → LogIs h' v.lg (es ++ ⟨1, v.n, x⟩ :: kidsTold nd (out nd len) (told nd len) j (len - (j + 1)) (j + 1)) → Q .none { s with heap := h', toks := tk' })
    (exc : kidsOut nd (out nd len) j v.own (len - (j + 1)) (j + 1) ≠ 0 → ∀ h' tk' e, Raised (env :: outer) [v.lg] s.heap h' e (excOf (kidsOut nd (out nd len) j v.own (len - (j + 1)) (j + 1))) → LogIs h' v.lg (es ++ ⟨1, v.n, x⟩ :: kidsTold nd (out nd len) (told nd len) j (len - (j + 1)) (j + 1)) → E (.ref e) { s with heap := h', toks := tk' }) :
    wpAny (model prog w) A (call (.ref v.fO) [u, .ref v.wide, .ref v.near]) Q E s :=
  have P := pushX Bw F hf hke
  inside_of_spec b (V.fr F) hA P.stays P.frames ⟨hlg, news_fs Bw N hf hm⟩ hh hroom hun (hN.fr F) hnl (hT.fr F) hlen hj hjl hown hok ih hlog hx hes ret exc
end

/-! F10 -/

def WorkAt (S : List Addr) (h : Heap) (q fM : Addr) : Prop := ∃ d es n, h.get? q = some (instObj 52 d) ∧ h.get? d = some (dictOf es n) ∧ getL (Str.ofString "profiler") es = some (some (.ref fM)) ∧ getL (Str.ofString "_show") es = some none ∧ getL (Str.ofString "run") es = some none ∧ getL (Str.ofString "runctx") es = some none ∧ q ∉ S ∧ d ∉ S
theorem excOf_se {k : Int} : excOf k = "SystemExit" ↔ k = 1 := by
  unfold excOf
  constructor
  · intro h
    by_cases q : k = 1
    · exact q
    · rw [if_neg q] at h
      by_cases q2 : k = 2
      · rw [if_pos q2] at h; exact absurd h (by decide)
      · rw [if_neg q2] at h; exact absurd h (by decide)
  · rintro rfl
    rfl
theorem Moves.prot {g g₂ h h' : Heap} {S : List Addr} {outer : List Env} (kp : Keeps (fs outer) [] g g₂) (np : ∀ b, g.get? b = none → g₂.get? b = none) (mv : Moves (prot g outer) S h h') : Moves (prot g₂ outer) S h h' where
  base := fun hb b o e => by
    have to2 : ∀ b o, (Mine.prot g outer).get? b = some o → (Mine.prot g₂ outer).get? b = some o := fun b o q => by
      have nf : b ∉ fs outer := fun hm => by
        have : (Mine.prot g outer).get? b = none := hideAll_none _ hm
        rw [q] at this; cases this
      exact prot_get (kp.obj b o (of_hideAll _ q) (fun z => nomatch z) nf) nf
    have nf : b ∉ fs outer := fun hm => by
      have : (Mine.prot g₂ outer).get? b = none := hideAll_none _ hm
      rw [e] at this; cases this
    have e2 := of_hideAll _ e
    cases q : g.get? b with
    | none => rw [np b q] at e2; cases e2
    | some o' =>
      have e3 := kp.obj b o' q (fun z => nomatch z) nf
      rw [e2] at e3; cases e3
      exact mv.base (fun b o q => hb b o (to2 b o q)) b o (prot_get q nf)
  obj := mv.obj
  slo := mv.slo
  ctx := mv.ctx
theorem IsExc.keeps {B h h' : Heap} {S X : List Addr} {e : Addr} {c x : Value} (k : Keeps S X h h') (hS : ∀ b ∈ S, ∃ o, h.get? b = some o ∧ ∀ vs, o.data ≠ .fields vs) (hX : ∀ b ∈ X, ∃ o, h.get? b = some o ∧ ∀ vs, o.data ≠ .fields vs) : IsExc B h e c x → IsExc B h' e c x := by
  have kk : ∀ b o vs, h.get? b = some o → o.data = .fields vs → h'.get? b = some o := fun b o vs q d => k.obj b o q (fun m => by obtain ⟨o', q', n⟩ := hX b m; rw [q] at q'; cases q'; exact n _ d) fun m => by
    obtain ⟨o', q', n⟩ := hS b m; rw [q] at q'; cases q'; exact n _ d
  rintro ⟨o, vs, t, e1, e2, e3, e4, e5, e6, r⟩
  exact ⟨o, vs, t, kk _ _ _ e1 e4, e2, e3, e4, e5, e6.imp id fun ⟨T, q, o', ts, f, q1, q2, q3⟩ => ⟨T, q, o', ts, f, kk _ _ _ q1 q2, q2, q3⟩, r⟩
theorem HasTb.keeps {h h' : Heap} {S X : List Addr} {e : Addr} (k : Keeps S X h h') (hS : ∀ b ∈ S, ∃ o, h.get? b = some o ∧ ∀ vs, o.data ≠ .fields vs) (hX : ∀ b ∈ X, ∃ o, h.get? b = some o ∧ ∀ vs, o.data ≠ .fields vs) : HasTb h e → HasTb h' e := fun ⟨o, vs, T, e1, e2, e3⟩ =>
  ⟨o, vs, T, k.obj e o e1 (fun m => by obtain ⟨o', q', n⟩ := hX e m; rw [e1] at q'; cases q'; exact n _ e2) (fun m => by obtain ⟨o', q', n⟩ := hS e m; rw [e1] at q'; cases q'; exact n _ e2), e2, e3⟩
theorem prot_stays {g g' h : Heap} {outer : List Env} {L : Addr} {m : Str → Option Value} (kp : Keeps (fs outer) [] g g') (F : Fr g' L h m) : (prot g outer).StaysIn h := fun b o q => by
  have nf : b ∉ fs outer := fun hm => by
    have : (prot g outer).get? b = none := hideAll_none _ hm
    rw [q] at this; cases this
  exact F.keep b o (kp.obj b o (of_hideAll _ q) (fun z => nomatch z) nf)
theorem prot_push {A₀ : Around} {B g g' h : Heap} {outer : List Env} {env : Env} {L : Addr} {m : Str → Option Value} (kp : Keeps (fs outer) [] g g') (F : Fr g' L h m) (Bw : Below A₀ B outer g') (hf : env.frame = some L) (hk : env.scope.kind = .function) :
    (prot g outer).StaysIn h ∧ h.FunFrames (prot g outer) (env :: outer) := by
  have nf : ∀ b o, (prot g outer).get? b = some o → b ∉ fs outer := fun b o q hm => by
    have : (prot g outer).get? b = none := hideAll_none _ hm
    rw [q] at this; cases this
  refine ⟨fun b o q => F.keep b o (kp.obj b o (of_hideAll _ q) (fun z => nomatch z) (nf b o q)), ?_⟩
  refine .cons (by rw [hk]; decide) hf F.ns ?_ (FunFrames.base (Bw.frames.of_keeps fun b o q _ => ⟨o, F.keep b o q, rfl⟩) fun b hb => hideAll_none _ hb)
  cases q : (prot g outer).get? L with
  | none => rfl
  | some o => exact absurd rfl (ground_ne F (kp.obj L o (of_hideAll _ q) (fun z => nomatch z) (nf L o q)))
section
variable {prog : Program} {w : World} {A : Around} {E : Value → Shared → Prop} {s : Shared} {K : Frag} {x C f L : Addr} {ox : Obj} {od : Option Obj} {name : Str} {h₀ : Heap} {m : Str → Option Value} {es : List DictEntry} {n : Nat} {pl : Sem Bool} {Q : Value × List Value → Shared → Prop} {v g : Value}
theorem findObj_shadow {od : Obj} (hh : hasDictIn K C = true) (ha : findIn K (.ref C) name = some (some (.ref f))) (hg : specialIn K (.ref f) "__get__" = some (some g)) (ht : takesIn K (.ref f) = some false) (hl : lookIn name od = some (some v)) :
    findObj K C (some od) name = some (.value v) := by
  obtain ⟨cd, hc', hd⟩ := any_some hh
  unfold findObj
  have ho : W.ownOf cd (some od) name = some (some v) := by unfold W.ownOf; rw [if_pos hd]; exact hl
  rw [hc', Option.bind_some, ha, Option.bind_some]
  simp only [hg, ht, Option.bind_some, ho]
theorem method_shadow (X : K.In s.heap) (I : InstAt s.heap x ox C od) (hga : findIn K (.ref C) "__getattribute__" = some (some (.builtin "object.__getattribute__"))) (hk : findIn K (.ref C) "__getattr__" = some none)
    (hf : findIn K (.ref C) name = some (some (.ref f))) (ht : typeIn K (.ref f) = some (.type "function")) (hs : shadowIn od name = some true)
    (h : wpAny (model prog w) A (getAttr (.ref x) name) (fun v => Q (v, [])) E s) :
    wpAny (model prog w) A (getMethod (.ref x) name pl) Q E s := by
  have hcan := PySem.F.canon_object_ga
  have u : wpAny (model prog w) A (do return (← getAttr (.ref x) name, ([] : List Value))) Q E s := wpAny_bind (wpAny_mono h (fun _ _ z => wpAny_pure z) fun _ _ z => z)
  unfold getMethod specialOf
  refine wpAny_bind (wpAny_bind (I.type.here ((looks_findIn X hga).here ?_)))
  dsimp only
  rw [hcan, if_neg (by decide)]
  refine wpAny_bind (wpAny_bind (I.type.here ((looks_findIn X hk).here ?_)))
  refine wpAny_bind (wpAny_bind (I.type.here ((looks_findIn X hf).here (wpAny_bind ((looks_typeIn X ht).here ?_)))))
  rw [if_neg (by decide +kernel)]
  refine wpAny_bind (wpAny_loadPart I.at_ ?_)
  have hd := I.dict
  cases e : ox.dict with
  | none =>
    cases od with
    | none => cases hs
    | some o => rw [e] at hd; exact hd.elim
  | some dx =>
    cases od with
    | none => rw [e] at hd; exact hd.elim
    | some o =>
      rw [e] at hd
      obtain ⟨r, a, b⟩ := Option.map_eq_some_iff.mp hs
      refine wpAny_bind (wpAny_bind (wpAny_loadPart hd ?_))
      rw [nsLook_of a]
      refine wpAny_pure ?_
      rw [b]
      first | exact u | (simp only [if_true]; exact u) | (rw [if_pos rfl]; exact u)
theorem own_method (F : Fr h₀ L s.heap m) (X₀ : K.In h₀) (I : InstAt s.heap x ox C (some (dictOf es n))) (hg : plainGet K C name = true) (hh : hasDictIn K C = true) (ha : findIn K (.ref C) name = some (some (.ref f))) (hf : isFn K (.ref f) = true)
    (hgf : specialIn K (.ref f) "__get__" = some (some g)) (ht : takesIn K (.ref f) = some false) (hl : getL name es = some (some v)) (hv : handedIn v = true) (h : Q (v, []) { s with toks := s.toks + 1 }) : wpAny (model prog w) A (getMethod (.ref x) name pl) Q E s :=
  method_shadow (X₀.keeps F.keep) I (plainGet_of hg).1 (plainGet_of hg).2 ha (beq_iff_eq.mp hf) (by show (lookIn name (dictOf es n)).map _ = _; rw [lookIn_dict, hl]; rfl)
    (get_value (X₀.keeps F.keep) I (plainGet_of hg).1 (findObj_shadow hh ha hgf ht (by rw [lookIn_dict, hl])) hv h)
end
/-- what is shown -/
def ShownIs (n : Int) (k : Int) (fn : Value) (ent : Ent) : Prop := (∃ y t, fn = .str y t ∧ ent = ⟨3, n, .str y⟩) ∨ (fn = .none ∧ ent = ⟨2, n, .int k⟩)
section
variable {prog : Program} {w : World} {p : Program} {loose : List Str} {mean : ExcName → Option Value} {mg mb : Str → Option Value} {B : Heap} {A A₀ : Around} {outer : List Env} {s : Shared} {Q E : Value → Shared → Prop}
  {g : Heap} {L : Addr} {m : Str → Option Value} {env : Env} {news : List (Addr × Obj)} {v : NodeV} {cm : Str → Addr} {tn to tl te : Tok} {es : List Ent} {nd : Nat → Nd} {len j : Nat}

theorem show_at (b : Base w p loose mean mg mb B) (Bw : Below A₀ B outer g) (F : Fr g L s.heap m) (N : News g L s.heap news) (hA : A.frames = some (env :: outer)) (hf : env.frame = some L) (hke : env.scope.kind = .function) {o : Obj} (hm : (v.lg, o) ∈ news)
    (hlg : B.get? v.lg = none) (V : NodeAt w g v cm tn to tl te) (hh : HandOk s.heap A.handled) (hroom : A.depth + 30 < recursionLimit) (hun : A.units + 120 < cLine) (hlog : LogIs s.heap v.lg es) (hes : es.length ≤ 100000) (hl : 0 ≤ v.late ∧ v.late ≤ 3)
    {q x : Addr} {k : Int} {tk : Tok} {fn : Value} {ent : Ent} (hp : ProfAt s.heap x v.fI v.fO v.fD v.fP) (hfn : ShownIs v.n k fn ent)
    (ret : v.late = 0 → ∀ h' tk', Keeps (fs (env :: outer)) [v.lg] s.heap h' → LogIs h' v.lg (es ++ [ent]) → Q .none { s with heap := h', toks := tk' })
    (exc : v.late ≠ 0 → ∀ h' tk' e, Raised (env :: outer) [v.lg] s.heap h' e (excOf v.late) → LogIs h' v.lg (es ++ [ent]) → E (.ref e) { s with heap := h', toks := tk' }) :
    wpAny (model prog w) A (call (.ref 49) [.ref q, .ref x, fn, .int k tk]) Q E s := by
  have P := pushX Bw F hf hke
  rcases hfn with ⟨y, t, rfl, rfl⟩ | ⟨rfl, rfl⟩
  · exact showD_spec b (V.fr F) hA P.stays P.frames ⟨hlg, news_fs Bw N hf hm⟩ hh hroom hun hlog hes hl hp ret exc
  · exact showP_spec (y := Str.ofString "") (t := 0) b (V.fr F) hA P.stays P.frames ⟨hlg, news_fs Bw N hf hm⟩ hh hroom hun hlog hes hl hp ret exc
theorem held_out {p : Prop} (h : Held p) : p := h
theorem nameB {M : Model} {A : Around} {E : Value → Shared → Prop} {s : Shared} {K : Frag} {L a : Addr} {mg mb : Str → Option Value} {cn : Str} {cs : Scope} {ccd : Value} {p : Program} {loose : List Str} {mean : ExcName → Option Value}
    {x : Str} {pos : Pos} {v : Value} {Q : Value → Shared → Prop} (X : K.In s.heap) (T : Top p loose mean mg mb s.heap) (e : nsIn K mainGlobals x = some none) (hv : bootBuiltins x = some v) (hn : x ≠ "__name__") (h : Q v s)
    (hk : cs.kind = .function := by rfl) (hx : (envOf cn cs L a ccd).kindOf x = some .globalImplicit := by rfl) (hd : (x == ("__debug__" : Str)) = false := by decide) :
    wpAny M A (eval (.Name x pos) (envOf cn cs L a ccd)) Q E s := Calls.Name_function_global hk hx (Calls.loadGlobal_builtin (env := envOf cn cs L a ccd) T.g (mg_none_of X T.g e) T.b ((T.builtins x hn).trans hv) h) hd
theorem hold_Try {b f : List Stmt} {hs : List ExceptHandler} {o : List Stmt} {pos : Pos} {Q : Flow → Shared → Prop} {E : Value → Shared → Prop} {A : Around} {env : Env} (h : Held (wpAny (model prog w) A (exec (.Try b hs o f pos) env) Q E s)) : wpAny (model prog w) A (exec (.Try b hs o f pos) env) Q E s := h
end

/-! F11 -/

local macro_rules | `(tactic| walk_at "exec Try cons cons nil cons") => `(tactic| (k_here; refine hold_Try ?_))
local macro_rules | `(tactic| walk_at "exec Try") => `(tactic| (k_here; refine hold_Try ?_))
section
variable {prog : Program} {w : World} {p : Program} {loose : List Str} {mean : ExcName → Option Value} {mg mb : Str → Option Value} {B : Heap} {A : Around} {outer : List Env} {s : Shared} {Q E : Value → Shared → Prop}
  {v : NodeV} {cm : Str → Addr} {tn to tl te : Tok} {es : List Ent} {nd : Nat → Nd} {len j : Nat}

theorem runctx_spec (b : Base w p loose mean mg mb B) (V : NodeAt w s.heap v cm tn to tl te) (hst : A.frames = some outer) (hB : B.StaysIn s.heap) (hff : s.heap.FunFrames B outer) (hlg : B.get? v.lg = none ∧ v.lg ∉ fs outer)
    (hA : A.handled = none) (hroom : A.depth + (50 * (len - (j + 1)) + 90) < recursionLimit) (hun : A.units + (200 * (len - (j + 1)) + 500) < cLine) (hN : NodesIs s.heap v.nl nd len) (hnl : v.nl ≠ v.lg) (hT : FullTab s.heap) (hlen : len ≤ 100)
    (hj : v.n = (j : Int)) (hjl : j < len) (hown : v.own = (nd j).own) (hok : ∀ i, i < len → (nd i).Ok) (ih : ∀ i, j < i → i < len → DoOk prog w B nd len i)
    (hlog : LogIs s.heap v.lg es) {x : EV} {u : Value} (hx : x.Is u) (hes : es.length + 1 ≤ 100000) (hesE : v.early = 0 → es.length + 3 + (kidsTold nd (out nd len) (told nd len) j (len - (j + 1)) (j + 1)).length ≤ 100000)
    (hl : 0 ≤ v.late ∧ v.late ≤ 3) (he : 0 ≤ v.early ∧ v.early ≤ 3) {q wd nr : Addr} {k : Int} {tk : Tok} {fn : Value} {ent : Ent} (hwd : wd = v.wide) (hnr : nr = v.near) (hw : WorkAt (v.lg :: fs outer) s.heap q v.fM) (hfn : ShownIs v.n k fn ent)
    (ret : v.early = 0 → v.late = 0 → (kidsOut nd (out nd len) j v.own (len - (j + 1)) (j + 1) = 0 ∨ kidsOut nd (out nd len) j v.own (len - (j + 1)) (j + 1) = 1) → ∀ h' tk', Keeps (fs outer) [v.lg] s.heap h' → LogIs h' v.lg (es ++ ⟨0, v.n, .str (Str.ofString "")⟩ :: ⟨1, v.n, x⟩ :: (kidsTold nd (out nd len) (told nd len) j (len - (j + 1)) (j + 1) ++ [ent])) → Q .none { s with heap := h', toks := tk' })
    (excE : v.early ≠ 0 → ∀ h' tk' e, Raised outer [v.lg] s.heap h' e (excOf v.early) → LogIs h' v.lg (es ++ [⟨0, v.n, .str (Str.ofString "")⟩]) → E (.ref e) { s with heap := h', toks := tk' })
    (excL : v.early = 0 → v.late ≠ 0 → ∀ h' tk' e, Raised outer [v.lg] s.heap h' e (excOf v.late) → LogIs h' v.lg (es ++ ⟨0, v.n, .str (Str.ofString "")⟩ :: ⟨1, v.n, x⟩ :: (kidsTold nd (out nd len) (told nd len) j (len - (j + 1)) (j + 1) ++ [ent])) → E (.ref e) { s with heap := h', toks := tk' })
    (excO : v.early = 0 → v.late = 0 → kidsOut nd (out nd len) j v.own (len - (j + 1)) (j + 1) ≠ 0 → kidsOut nd (out nd len) j v.own (len - (j + 1)) (j + 1) ≠ 1 → ∀ h' tk' e, Raised outer [v.lg] s.heap h' e (excOf (kidsOut nd (out nd len) j v.own (len - (j + 1)) (j + 1))) → LogIs h' v.lg (es ++ ⟨0, v.n, .str (Str.ofString "")⟩ :: ⟨1, v.n, x⟩ :: (kidsTold nd (out nd len) (told nd len) j (len - (j + 1)) (j + 1) ++ [ent])) → E (.ref e) { s with heap := h', toks := tk' }) :
    wpAny (model prog w) A (call (.ref 42) [.ref q, u, .ref wd, .ref nr, fn, .int k tk]) Q E s := by
  subst hwd
  subst hnr
  have ff : PySem.Challenge.rw_kl0226_01 = PySem.Challenge.rw_kl0226_01 ∧ hd.heap_39 = hd.heap_39 := by
    k_fill
    exact ⟨rfl, rfl⟩
  clear ff
  obtain ⟨hd, dp, fr, gd, un⟩ := A
  cases hst
  dsimp only at hA hroom hun
  subst hA
  have X₀ := b.X.keeps hB
  obtain ⟨its, nn, hlo, hit⟩ := hlog
  have hop : Open B outer s.heap [(v.lg, listOf its nn)] := fun p hp => by cases List.mem_singleton.mp hp; exact ⟨hlo, hlg⟩
  have hod : ∀ p ∈ [(v.lg, listOf its nn)], s.heap.get? p.1 = some p.2 ∧ Odd p.2 := fun p hp => by cases List.mem_singleton.mp hp; exact ⟨hlo, .list⟩
  refine' enter_k (B := B) (binds := [(Str.ofString "self", .ref q), (Str.ofString "statement", u), (Str.ofString "globals", .ref v.wide), (Str.ofString "locals", .ref v.near), (Str.ofString "filename", fn), (Str.ofString "sort", .int k tk)]) [(v.lg, listOf its nn)] rfl hB hff hop b.T.nolimit ?k1 ?k2 ?k3 ?k4 ?k5 ?k6 ?_ ?k7 ?k8 ?k9 ?k10
  case k1 => exact X₀ _ _ (by k_is)
  case k2 => exact rfl
  case k3 => exact codeRec_of X₀ (by k_is)
  case k4 => exact Nat.lt_of_le_of_lt (Nat.le_add_right _ _) hroom
  case k5 => exact BindsTo.of_eq rfl
  case k6 => exact locs rfl
  case k7 => decide
  case k8 => exact rfl
  case k9 => exact rfl
  case k10 => exact rfl
  intro g L h₁ hg hL F N Bw
  have X' := b.X.keeps Bw.stays
  have T' := b.T.keeps Bw.stays
  have V' := V.ground hod
  rw [← hg] at V'
  have hh' : HandOk g none := .inl rfl
  have hsz : its.size ≤ sizeLine := its_fit hit (by omega)
  have hX1 : ∀ z ∈ [(v.lg, listOf its nn)].map (·.1), ∀ o, s.heap.get? z = some o → o.cls ≠ .type "tuple" := fun z hz o q => by
    cases List.mem_singleton.mp hz
    rw [hlo] at q; cases q
    exact fun z => absurd (Value.type.inj z) (by decide)
  have hX2 : ∀ z ∈ [(v.lg, listOf its nn)].map (·.1), ∀ o, s.heap.get? z = some o → ∀ vs, o.data ≠ .fields vs := fun z hz o q vs e => by
    cases List.mem_singleton.mp hz
    rw [hlo] at q; cases q
    cases e
  have hN' : NodesIs g v.nl nd len := hg ▸ hN.ground (by simpa using hnl) hX1
  have hT' : FullTab g := hg ▸ hT.ground hX2
  have kM' := V'.kM
  have hlg' := hlg.1
  have hlog' : LogIs h₁ v.lg es := log_enter hlo hit hg F N
  have hes' : es.length ≤ 100000 := by omega
  obtain ⟨qd, qes, qn, w1, w2, w3, w4, w5, w6, w7, w8⟩ := hw
  have w1' : g.get? q = some (instObj 52 qd) := hg ▸ hideAll_get _ w1 fun z => w7 (by cases List.mem_singleton.mp z; exact List.Mem.head _)
  have w2' : g.get? qd = some (dictOf qes qn) := hg ▸ hideAll_get _ w2 fun z => w8 (by cases List.mem_singleton.mp z; exact List.Mem.head _)
  change wpAny _ _ _ _ _ _
  k_fold
  repeat' (first | ((with_reducible show wpAny _ _ (call (Value.ref 49) _) _ _ _); refine hold_call ?_) | ((with_reducible show wpAny _ _ (getMethod (Value.ref _) _ _) _ _ _); k_dflt (refine' own_method ?q9k1 ?q9k2 ?q9k3 ?q9k4 ?q9k5 ?q9k6 ?q9k7 ?q9k8 ?q9k9 ?q9k10 ?q9k11 ?_; (case q9k1 => k_asm); (case q9k2 => k_asm); (case q9k3 => exact InstAt.of_news (by k_asm) (by k_mem) (by k_mem)); (case q9k4 => k_is); (case q9k5 => k_is); (case q9k6 => k_is); (case q9k7 => k_is); (case q9k8 => k_is); (case q9k9 => k_is); (case q9k10 => assumption); (case q9k11 => exact rfl); k_whole)) | ((with_reducible show wpAny _ _ (call (Value.ref (NodeV.fM _)) _) _ _ _); k_dflt (refine' maker_at ?q9b ?q9Bw ?q9F ?q9N ?q9hA ?q9hf ?q9hke ?q9hm ?q9hlg ?q9V ?q9hh ?q9hr ?q9hu ?q9hlog ?q9hes ?q9hl ?ret ?exc; (case q9b => assumption); (case q9Bw => assumption); (case q9F => k_asm); (case q9N => k_asm); (case q9hA => exact rfl); (case q9hf => exact rfl); (case q9hke => exact rfl); (case q9hm => k_mem); (case q9hlg => assumption); (case q9V => assumption); (case q9hh => assumption); (case q9hr => k_room); (case q9hu => k_room); (case q9hlog => assumption); (case q9hes => assumption); (case q9hl => assumption); k_whole); (case' ret => (intro _ _ _ _ _ _ _ _; refine held_out ?_)); (case' exc => intro _ _ _ _ _ _)) | ((with_reducible show wpAny _ _ (callWith _ (Value.ref _) _ _ _) _ _ _); k_dflt (first   | (refine' callWith_F ?q9k1 ?_; (case q9k1 => exact fnat_ground (by k_asm) (by assumption)); k_whole)   | (refine' callWith_F0 ?q9k1 ?_; (case q9k1 => exact fnat_ground (by k_asm) (by assumption)); k_whole; try dsimp only [List.nil_append, List.cons_append]))) | ((with_reducible show wpAny _ _ (call (Value.ref 63) _) _ _ _); k_dflt (refine' raise_at ?q9b ?q9Bw ?q9F ?q9N ?q9hA ?q9hf ?q9hke ?q9hh ?q9hr ?q9hu ?q9hk ?ret ?exc; (case q9b => assumption); (case q9Bw => assumption); (case q9F => k_asm); (case q9N => k_asm); (case q9hA => exact rfl); (case q9hf => exact rfl); (case q9hke => exact rfl); (case q9hh => assumption); (case q9hr => k_room); (case q9hu => k_room); (case q9hk => assumption); k_whole); (case' ret => (intro _ _ _ _ _; (try k_sweep))); (case' exc => intro _ _ _ _ _ _ _)) | ((with_reducible show wpAny _ _ (eval (Expr.Name _ _) _) _ _ _); k_dflt (refine' nameG ?q9F ?q9c ?q9v ?_ ?q9a ?q9b ?q9d ?q9n; (case q9a => rfl); (case q9b => rfl); (case q9d => decide); (case q9n => decide); (case q9F => k_asm); (case q9c => assumption); (case q9v => assumption); k_whole)) | (k_unfold; (try dsimp only)) | (k_end; wrow_close) | walk1 | (dsimp only; walk1) | (leave1; try dsimp only) | fail "no step")
  · rename_i hk0 h₂ _ e' R' l'
    obtain ⟨its', n', q1⟩ := l'.at
    refine thrown_call (Xn := [v.lg]) hop hg (.refl _) F N Bw rfl rfl (fun z hz => by cases List.mem_singleton.mp hz; exact List.mem_map_of_mem (List.mem_singleton_self _)) R' (Tame.list q1) fun h₃ q mv => ?_
    exact excE hk0 h₃ _ e' q (l'.moves mv (news_fs Bw N rfl (List.mem_singleton_self _)))
  · rename_i hk0 h₂ tk₂ x' k' l' pr' nx'
    have hes := hesE hk0
    obtain ⟨its1, n1, q1⟩ := l'.at
    obtain ⟨g₁, t1, F₁, Bw₁, np₁, _⟩ := back Bw F N rfl (X := [v.lg]) (fun z hz => by cases List.mem_singleton.mp hz; exact List.mem_map_of_mem (List.mem_singleton_self _)) k'
    obtain ⟨xd, xes, xn, p1, p2, p3, p4, p5, p6⟩ := id pr'
    have lgL := (N (v.lg, _) (List.mem_singleton_self _)).2
    have gx : ∀ z, h₁.get? z = none → z ≠ L ∧ g.get? z = none := fun z e => by
      refine ⟨fun y => ?_, ?_⟩
      · obtain ⟨oL, _, _, e1, _⟩ := F.ns
        rw [y, e1] at e
        cases e
      · cases e' : g.get? z with
        | none => rfl
        | some o =>
          have := F.keep z o e'
          rw [e] at this
          cases this
    have N₁ : News g₁ L h₂ [(x', instObj 52 xd), (xd, dictOf xes xn), (v.lg, W.listOf its1 n1)] := fun z hz => by
      rcases List.mem_cons.mp hz with rfl | hz
      · exact ⟨p1, (gx _ nx'.1).1, np₁ _ (gx _ nx'.1).2⟩
      · rcases List.mem_cons.mp hz with rfl | hz
        · exact ⟨p2, (gx _ (nx'.2 _ p1)).1, np₁ _ (gx _ (nx'.2 _ p1)).2⟩
        · cases List.mem_singleton.mp hz
          exact ⟨q1, lgL.1, np₁ _ lgL.2⟩
    have X₁ := b.X.keeps Bw₁.stays
    have T₁ := b.T.keeps Bw₁.stays
    have V₁ := V'.keeps t1 Bw.frames (fun _ z => nomatch z)
    have kI₁ := V₁.kI
    have kO₁ := V₁.kO
    have hN₁ := hN'.keeps t1 (fun z => nomatch z) (fun _ z => nomatch z)
    have hT₁ := hT'.keeps t1 Bw.frames (fun _ z => nomatch z)
    have u1 : g₁.get? q = some (instObj 52 qd) := t1.obj _ _ w1' (fun z => nomatch z) (fun z => w7 (List.mem_cons_of_mem _ z))
    have u2 : g₁.get? qd = some (dictOf qes qn) := t1.obj _ _ w2' (fun z => nomatch z) (fun z => w8 (List.mem_cons_of_mem _ z))
    clear w1' w2' X' T' V' hN' hT' kM' hlog' F N
    refine held (wpAny_storeName_local rfl F₁.ns (fun h₃ hn₃ hs₃ => ?_) rfl)
    have F₃ := F₁.set hn₃ hs₃
    have N₃ := N₁.set hs₃
    obtain ⟨oL, esL, epL, nL1, nL2, nL3⟩ := id F₁.ns
    have l₃ : LogIs h₃ v.lg (es ++ [⟨0, v.n, .str (Str.ofString "")⟩]) := l'.seq fun b o _ _ z z' => (hs₃.2 b fun y => by rw [y, nL1] at z; cases z; rw [nL2] at z'; cases z').trans z
    clear F₁ N₁ nL1 nL2 nL3 q1
    have x3 := (N₃ _ (List.Mem.head _)).1
    have d3 := (N₃ _ (List.Mem.tail _ (List.Mem.head _))).1
    have nx1 := (N₃ _ (List.Mem.head _)).2
    have nx2 := (N₃ _ (List.Mem.tail _ (List.Mem.head _))).2
    have lgL₁ := np₁ _ lgL.2
    dsimp only at x3 d3 nx1 nx2 lgL lgL₁
    have xlg : x' ∉ [v.lg] := fun z => by
      have q1 := (N₃ (v.lg, _) (List.Mem.tail _ (List.Mem.tail _ (List.Mem.head _)))).1
      have q2 := (congrArg h₃.get? (List.mem_singleton.mp z)).symm.trans x3
      dsimp only at q1
      rw [q1] at q2
      cases congrArg Obj.data (Option.some.inj q2)
    have dlg : xd ∉ [v.lg] := fun z => by
      have q1 := (N₃ (v.lg, _) (List.Mem.tail _ (List.Mem.tail _ (List.Mem.head _)))).1
      have q2 := (congrArg h₃.get? (List.mem_singleton.mp z)).symm.trans d3
      dsimp only at q1
      rw [q1] at q2
      cases congrArg Obj.data (Option.some.inj q2)
    have hes₃ : (es ++ [(⟨0, v.n, .str (Str.ofString "")⟩ : Ent)]).length + 1 + (kidsTold nd (out nd len) (told nd len) j (len - (j + 1)) (j + 1)).length ≤ 100000 := by simp only [List.length_append, List.length_cons, List.length_nil]; omega
    change wpAny _ _ _ _ _ _
    try k_fold
    repeat' (first | ((with_reducible show wpAny _ _ (call (Value.ref 49) _) _ _ _); refine hold_call ?_) | ((with_reducible show wpAny _ _ (getMethod (Value.ref _) _ _) _ _ _); k_dflt (refine' own_method ?q9k1 ?q9k2 ?q9k3 ?q9k4 ?q9k5 ?q9k6 ?q9k7 ?q9k8 ?q9k9 ?q9k10 ?q9k11 ?_; (case q9k1 => k_asm); (case q9k2 => k_asm); (case q9k3 => exact InstAt.of_news (by k_asm) (by k_mem) (by k_mem)); (case q9k4 => k_is); (case q9k5 => k_is); (case q9k6 => k_is); (case q9k7 => k_is); (case q9k8 => k_is); (case q9k9 => k_is); (case q9k10 => assumption); (case q9k11 => exact rfl); k_whole)) | ((with_reducible show wpAny _ _ (call (Value.ref (NodeV.fM _)) _) _ _ _); k_dflt (refine' maker_at ?q9b ?q9Bw ?q9F ?q9N ?q9hA ?q9hf ?q9hke ?q9hm ?q9hlg ?q9V ?q9hh ?q9hr ?q9hu ?q9hlog ?q9hes ?q9hl ?ret ?exc; (case q9b => assumption); (case q9Bw => assumption); (case q9F => k_asm); (case q9N => k_asm); (case q9hA => exact rfl); (case q9hf => exact rfl); (case q9hke => exact rfl); (case q9hm => k_mem); (case q9hlg => assumption); (case q9V => assumption); (case q9hh => assumption); (case q9hr => k_room); (case q9hu => k_room); (case q9hlog => assumption); (case q9hes => assumption); (case q9hl => assumption); k_whole); (case' ret => (intro _ _ _ _ _ _ _ _; refine held_out ?_)); (case' exc => intro _ _ _ _ _ _)) | ((with_reducible show wpAny _ _ (callWith _ (Value.ref _) _ _ _) _ _ _); k_dflt (first   | (refine' callWith_F ?q9k1 ?_; (case q9k1 => exact fnat_ground (by k_asm) (by assumption)); k_whole)   | (refine' callWith_F0 ?q9k1 ?_; (case q9k1 => exact fnat_ground (by k_asm) (by assumption)); k_whole; try dsimp only [List.nil_append, List.cons_append]))) | ((with_reducible show wpAny _ _ (call (Value.ref 63) _) _ _ _); k_dflt (refine' raise_at ?q9b ?q9Bw ?q9F ?q9N ?q9hA ?q9hf ?q9hke ?q9hh ?q9hr ?q9hu ?q9hk ?ret ?exc; (case q9b => assumption); (case q9Bw => assumption); (case q9F => k_asm); (case q9N => k_asm); (case q9hA => exact rfl); (case q9hf => exact rfl); (case q9hke => exact rfl); (case q9hh => assumption); (case q9hr => k_room); (case q9hu => k_room); (case q9hk => assumption); k_whole); (case' ret => (intro _ _ _ _ _; (try k_sweep))); (case' exc => intro _ _ _ _ _ _ _)) | ((with_reducible show wpAny _ _ (eval (Expr.Name _ _) _) _ _ _); k_dflt (refine' nameG ?q9F ?q9c ?q9v ?_ ?q9a ?q9b ?q9d ?q9n; (case q9a => rfl); (case q9b => rfl); (case q9d => decide); (case q9n => decide); (case q9F => k_asm); (case q9c => assumption); (case q9v => assumption); k_whole)) | (k_unfold; (try dsimp only)) | (k_end; wrow_close) | walk1 | (dsimp only; walk1) | (leave1; try dsimp only) | fail "no step")
    refine held (TryFin_k (O := prot g outer) (E := E) rfl rfl ?name ?body)
    case name =>
      intro A' E' s' hO
      have hB' : B.StaysIn s'.heap := fun b o e => hO b o (prot_get (Bw.stays b o e) (base_fs Bw e))
      have XB := b.X.keeps hB'
      have TB := b.T.keeps hB'
      exact nameB XB TB (by k_is) (by boot_by_name) (by decide) ⟨rfl, rfl⟩
    case body =>
      change wpAny _ _ _ _ _ _
      try k_fold
      repeat' (first | ((with_reducible show wpAny _ _ (call (Value.ref 49) _) _ _ _); refine hold_call ?_) | ((with_reducible show wpAny _ _ (getMethod (Value.ref _) _ _) _ _ _); k_dflt (refine' own_method ?q9k1 ?q9k2 ?q9k3 ?q9k4 ?q9k5 ?q9k6 ?q9k7 ?q9k8 ?q9k9 ?q9k10 ?q9k11 ?_; (case q9k1 => k_asm); (case q9k2 => k_asm); (case q9k3 => exact InstAt.of_news (by k_asm) (by k_mem) (by k_mem)); (case q9k4 => k_is); (case q9k5 => k_is); (case q9k6 => k_is); (case q9k7 => k_is); (case q9k8 => k_is); (case q9k9 => k_is); (case q9k10 => assumption); (case q9k11 => exact rfl); k_whole)) | ((with_reducible show wpAny _ _ (call (Value.ref (NodeV.fM _)) _) _ _ _); k_dflt (refine' maker_at ?q9b ?q9Bw ?q9F ?q9N ?q9hA ?q9hf ?q9hke ?q9hm ?q9hlg ?q9V ?q9hh ?q9hr ?q9hu ?q9hlog ?q9hes ?q9hl ?ret ?exc; (case q9b => assumption); (case q9Bw => assumption); (case q9F => k_asm); (case q9N => k_asm); (case q9hA => exact rfl); (case q9hf => exact rfl); (case q9hke => exact rfl); (case q9hm => k_mem); (case q9hlg => assumption); (case q9V => assumption); (case q9hh => assumption); (case q9hr => k_room); (case q9hu => k_room); (case q9hlog => assumption); (case q9hes => assumption); (case q9hl => assumption); k_whole); (case' ret => (intro _ _ _ _ _ _ _ _; refine held_out ?_)); (case' exc => intro _ _ _ _ _ _)) | ((with_reducible show wpAny _ _ (callWith _ (Value.ref _) _ _ _) _ _ _); k_dflt (first   | (refine' callWith_F ?q9k1 ?_; (case q9k1 => exact fnat_ground (by k_asm) (by assumption)); k_whole)   | (refine' callWith_F0 ?q9k1 ?_; (case q9k1 => exact fnat_ground (by k_asm) (by assumption)); k_whole; try dsimp only [List.nil_append, List.cons_append]))) | ((with_reducible show wpAny _ _ (call (Value.ref 63) _) _ _ _); k_dflt (refine' raise_at ?q9b ?q9Bw ?q9F ?q9N ?q9hA ?q9hf ?q9hke ?q9hh ?q9hr ?q9hu ?q9hk ?ret ?exc; (case q9b => assumption); (case q9Bw => assumption); (case q9F => k_asm); (case q9N => k_asm); (case q9hA => exact rfl); (case q9hf => exact rfl); (case q9hke => exact rfl); (case q9hh => assumption); (case q9hr => k_room); (case q9hu => k_room); (case q9hk => assumption); k_whole); (case' ret => (intro _ _ _ _ _; (try k_sweep))); (case' exc => intro _ _ _ _ _ _ _)) | ((with_reducible show wpAny _ _ (eval (Expr.Name _ _) _) _ _ _); k_dflt (refine' nameG ?q9F ?q9c ?q9v ?_ ?q9a ?q9b ?q9d ?q9n; (case q9a => rfl); (case q9b => rfl); (case q9d => decide); (case q9n => decide); (case q9F => k_asm); (case q9c => assumption); (case q9v => assumption); k_whole)) | (k_unfold; (try dsimp only)) | (k_end; wrow_close) | walk1 | (dsimp only; walk1) | (leave1; try dsimp only) | fail "no step")
      refine inside_of_at (es := es ++ [⟨0, v.n, .str (Str.ofString "")⟩]) b Bw₁ F₃ N₃ rfl rfl rfl (List.Mem.tail _ (List.Mem.tail _ (List.Mem.head _))) hlg' V₁ rfl (by k_room) (by k_room) hN₁ hnl hT₁ hlen hj hjl hown hok ih l₃ hx hes₃ (fun hk5 h₅ tk₅ k₅ l₅ => ?_) fun hk5 h₅ tk₅ e₅ R₅ l₅ => ?_
      · have l₅' : LogIs h₅ v.lg (es ++ ⟨0, v.n, .str (Str.ofString "")⟩ :: ⟨1, v.n, x⟩ :: kidsTold nd (out nd len) (told nd len) j (len - (j + 1)) (j + 1)) := by simpa only [List.append_assoc, List.cons_append, List.nil_append] using l₅
        obtain ⟨g₅, t5, F₅, Bw₅, np₅, ld₅⟩ := back Bw₁ F₃ N₃ rfl (X := [v.lg]) (fun z hz => by cases List.mem_singleton.mp hz; exact List.mem_map_of_mem (List.Mem.tail _ (List.Mem.tail _ (List.Mem.head _)))) k₅
        have x5 := ld₅ _ (List.Mem.head _) xlg
        have d5 := ld₅ _ (List.Mem.tail _ (List.Mem.head _)) dlg
        dsimp only at x5 d5
        clear F₃ N₃ X₁ T₁
        refine wpAny_execs_nil ⟨rfl, ?_⟩
        obtain ⟨itsZ, nZ, lZ, _⟩ := id l₅'
        have NZ : News g₅ L h₅ [(x', instObj 52 xd), (xd, dictOf xes xn), (v.lg, W.listOf itsZ nZ)] := fun z hz => by
          rcases List.mem_cons.mp hz with rfl | hz
          · exact ⟨x5, nx1.1, np₅ _ nx1.2⟩
          · rcases List.mem_cons.mp hz with rfl | hz
            · exact ⟨d5, nx2.1, np₅ _ nx2.2⟩
            · cases List.mem_singleton.mp hz
              exact ⟨lZ, lgL.1, np₅ _ lgL₁⟩
        have XZ := b.X.keeps Bw₅.stays
        have TZ := b.T.keeps Bw₅.stays
        have VZ := V₁.keeps t5 Bw₁.frames (fun _ z => nomatch z)
        have uZ1 : g₅.get? q = some (instObj 52 qd) := (t5).obj _ _ u1 (fun z => nomatch z) (fun z => w7 (List.mem_cons_of_mem _ z))
        have uZ2 : g₅.get? qd = some (dictOf qes qn) := (t5).obj _ _ u2 (fun z => nomatch z) (fun z => w8 (List.mem_cons_of_mem _ z))
        have pZ : ProfAt h₅ x' v.fI v.fO v.fD v.fP := ⟨xd, xes, xn, x5, d5, p3, p4, p5, p6⟩
        change wpAny _ _ _ _ _ _
        try k_fold
        repeat' (first | ((with_reducible show wpAny _ _ (call (Value.ref 49) _) _ _ _); refine hold_call ?_) | ((with_reducible show wpAny _ _ (getMethod (Value.ref _) _ _) _ _ _); k_dflt (refine' own_method ?q9k1 ?q9k2 ?q9k3 ?q9k4 ?q9k5 ?q9k6 ?q9k7 ?q9k8 ?q9k9 ?q9k10 ?q9k11 ?_; (case q9k1 => k_asm); (case q9k2 => k_asm); (case q9k3 => exact InstAt.of_news (by k_asm) (by k_mem) (by k_mem)); (case q9k4 => k_is); (case q9k5 => k_is); (case q9k6 => k_is); (case q9k7 => k_is); (case q9k8 => k_is); (case q9k9 => k_is); (case q9k10 => assumption); (case q9k11 => exact rfl); k_whole)) | ((with_reducible show wpAny _ _ (call (Value.ref (NodeV.fM _)) _) _ _ _); k_dflt (refine' maker_at ?q9b ?q9Bw ?q9F ?q9N ?q9hA ?q9hf ?q9hke ?q9hm ?q9hlg ?q9V ?q9hh ?q9hr ?q9hu ?q9hlog ?q9hes ?q9hl ?ret ?exc; (case q9b => assumption); (case q9Bw => assumption); (case q9F => k_asm); (case q9N => k_asm); (case q9hA => exact rfl); (case q9hf => exact rfl); (case q9hke => exact rfl); (case q9hm => k_mem); (case q9hlg => assumption); (case q9V => assumption); (case q9hh => assumption); (case q9hr => k_room); (case q9hu => k_room); (case q9hlog => assumption); (case q9hes => assumption); (case q9hl => assumption); k_whole); (case' ret => (intro _ _ _ _ _ _ _ _; refine held_out ?_)); (case' exc => intro _ _ _ _ _ _)) | ((with_reducible show wpAny _ _ (callWith _ (Value.ref _) _ _ _) _ _ _); k_dflt (first   | (refine' callWith_F ?q9k1 ?_; (case q9k1 => exact fnat_ground (by k_asm) (by assumption)); k_whole)   | (refine' callWith_F0 ?q9k1 ?_; (case q9k1 => exact fnat_ground (by k_asm) (by assumption)); k_whole; try dsimp only [List.nil_append, List.cons_append]))) | ((with_reducible show wpAny _ _ (call (Value.ref 63) _) _ _ _); k_dflt (refine' raise_at ?q9b ?q9Bw ?q9F ?q9N ?q9hA ?q9hf ?q9hke ?q9hh ?q9hr ?q9hu ?q9hk ?ret ?exc; (case q9b => assumption); (case q9Bw => assumption); (case q9F => k_asm); (case q9N => k_asm); (case q9hA => exact rfl); (case q9hf => exact rfl); (case q9hke => exact rfl); (case q9hh => assumption); (case q9hr => k_room); (case q9hu => k_room); (case q9hk => assumption); k_whole); (case' ret => (intro _ _ _ _ _; (try k_sweep))); (case' exc => intro _ _ _ _ _ _ _)) | ((with_reducible show wpAny _ _ (eval (Expr.Name _ _) _) _ _ _); k_dflt (refine' nameG ?q9F ?q9c ?q9v ?_ ?q9a ?q9b ?q9d ?q9n; (case q9a => rfl); (case q9b => rfl); (case q9d => decide); (case q9n => decide); (case q9F => k_asm); (case q9c => assumption); (case q9v => assumption); k_whole)) | (k_unfold; (try dsimp only)) | (k_end; wrow_close) | walk1 | (dsimp only; walk1) | (leave1; try dsimp only) | fail "no step")
        refine held (show_at b Bw₅ F₅ NZ rfl rfl rfl (List.Mem.tail _ (List.Mem.tail _ (List.Mem.head _))) hlg' VZ (.inl rfl) (by k_room) (by k_room) l₅' (by simp only [List.length_append, List.length_cons, List.length_nil]; omega) hl pZ hfn (fun hk9 h₉ tk₉ k₉ l₉ => ?_) fun hk9 h₉ tk₉ e₉ R₉ l₉ => ?_)
        · have l' : LogIs h₉ v.lg (es ++ ⟨0, v.n, .str (Str.ofString "")⟩ :: ⟨1, v.n, x⟩ :: (kidsTold nd (out nd len) (told nd len) j (len - (j + 1)) (j + 1) ++ [ent])) := by simpa only [List.append_assoc, List.cons_append, List.nil_append] using l₉
          obtain ⟨its9, n9, q9, _⟩ := id l'
          obtain ⟨gB, tB, FB, BwB, npB, _⟩ := back Bw₅ F₅ NZ rfl (X := [v.lg]) (fun z hz => by cases List.mem_singleton.mp hz; exact List.mem_map_of_mem (List.Mem.tail _ (List.Mem.tail _ (List.Mem.head _)))) k₉
          refine wpAny_execs_nil ⟨rfl, wpAny_execs_nil ?_⟩
          exact ret hk0 hk9 (.inl hk5) h₉ _ (exitR_k hop hg ((t1.trans t5).trans tB) FB (Tame.list q9)) l'
        · have l' : LogIs h₉ v.lg (es ++ ⟨0, v.n, .str (Str.ofString "")⟩ :: ⟨1, v.n, x⟩ :: (kidsTold nd (out nd len) (told nd len) j (len - (j + 1)) (j + 1) ++ [ent])) := by simpa only [List.append_assoc, List.cons_append, List.nil_append] using l₉
          obtain ⟨its9, n9, q9, _⟩ := id l'
          refine thrown_call (Xn := [v.lg]) hop hg (t1.trans t5) F₅ NZ Bw₅ rfl rfl (fun z hz => by cases List.mem_singleton.mp hz; exact List.mem_map_of_mem (List.Mem.tail _ (List.Mem.tail _ (List.Mem.head _)))) R₉ (Tame.list q9) fun hA q9 mv => ?_
          exact excL hk0 hk9 hA _ e₉ q9 (l'.moves mv (news_fs Bw₅ NZ rfl (p := (v.lg, _)) (List.Mem.tail _ (List.Mem.tail _ (List.Mem.head _)))))
      · have l₅' : LogIs h₅ v.lg (es ++ ⟨0, v.n, .str (Str.ofString "")⟩ :: ⟨1, v.n, x⟩ :: kidsTold nd (out nd len) (told nd len) j (len - (j + 1)) (j + 1)) := by simpa only [List.append_assoc, List.cons_append, List.nil_append] using l₅
        obtain ⟨g₅, t5, F₅, Bw₅, np₅, ld₅⟩ := back Bw₁ F₃ N₃ rfl (X := [v.lg]) (fun z hz => by cases List.mem_singleton.mp hz; exact List.mem_map_of_mem (List.Mem.tail _ (List.Mem.tail _ (List.Mem.head _)))) R₅.keeps
        obtain ⟨x₅, n₅, hx₅, hc₅⟩ := R₅.exc
        have x5 := ld₅ _ (List.Mem.head _) xlg
        have d5 := ld₅ _ (List.Mem.tail _ (List.Mem.head _)) dlg
        dsimp only at x5 d5
        have ie₅ : IsExc (prot g outer) h₅ e₅ _ x₅ := hx₅.base (old_mono t1 F₃ rfl (fun z hz => by cases List.mem_singleton.mp hz; exact lgL₁))
        have st₅ := prot_stays (t1.trans t5) F₅
        clear F₃ N₃ X₁ T₁
        obtain ⟨its5, n5, q5, _⟩ := id l₅'
        have N₅ : News g₅ L h₅ [(x', instObj 52 xd), (xd, dictOf xes xn), (v.lg, W.listOf its5 n5)] := fun z hz => by
          rcases List.mem_cons.mp hz with rfl | hz
          · exact ⟨x5, nx1.1, np₅ _ nx1.2⟩
          · rcases List.mem_cons.mp hz with rfl | hz
            · exact ⟨d5, nx2.1, np₅ _ nx2.2⟩
            · cases List.mem_singleton.mp hz
              exact ⟨q5, lgL.1, np₅ _ lgL₁⟩
        refine ⟨e₅, _, x₅, n₅, rfl, ie₅, hc₅, st₅, (prot_push (t1.trans t5) F₅ Bw₅ rfl rfl).2, fun hX h₆ sp => ?_, fun hX h₆ sp tb => ?_⟩
        · obtain ⟨g₆, t6, F₆, Bw₆, np₆, ld₆⟩ := backM Bw₅ F₅ N₅ rfl (sp.mv.prot (t1.trans t5) (fun z y => np₅ z (np₁ z y)))
          have x6 := ld₆ _ (List.Mem.head _) (fun vs z => by cases z)
          have d6 := ld₆ _ (List.Mem.tail _ (List.Mem.head _)) (fun vs z => by cases z)
          dsimp only at x6 d6
          have l₆ := l₅'.moves sp.mv (news_fs Bw₅ N₅ rfl (p := (v.lg, _)) (List.Mem.tail _ (List.Mem.tail _ (List.Mem.head _))))
          clear F₅ N₅
          obtain ⟨itsZ, nZ, lZ, _⟩ := id l₆
          have NZ : News g₆ L h₆ [(x', instObj 52 xd), (xd, dictOf xes xn), (v.lg, W.listOf itsZ nZ)] := fun z hz => by
            rcases List.mem_cons.mp hz with rfl | hz
            · exact ⟨x6, nx1.1, (fun z y => np₆ z (np₅ z y)) _ nx1.2⟩
            · rcases List.mem_cons.mp hz with rfl | hz
              · exact ⟨d6, nx2.1, (fun z y => np₆ z (np₅ z y)) _ nx2.2⟩
              · cases List.mem_singleton.mp hz
                exact ⟨lZ, lgL.1, (fun z y => np₆ z (np₅ z y)) _ lgL₁⟩
          have XZ := b.X.keeps Bw₆.stays
          have TZ := b.T.keeps Bw₆.stays
          have VZ := V₁.keeps (t5.trans t6) Bw₁.frames (fun _ z => nomatch z)
          have uZ1 : g₆.get? q = some (instObj 52 qd) := ((t5.trans t6)).obj _ _ u1 (fun z => nomatch z) (fun z => w7 (List.mem_cons_of_mem _ z))
          have uZ2 : g₆.get? qd = some (dictOf qes qn) := ((t5.trans t6)).obj _ _ u2 (fun z => nomatch z) (fun z => w8 (List.mem_cons_of_mem _ z))
          have pZ : ProfAt h₆ x' v.fI v.fO v.fD v.fP := ⟨xd, xes, xn, x6, d6, p3, p4, p5, p6⟩
          change wpAny _ _ _ _ _ _
          try k_fold
          repeat' (first | ((with_reducible show wpAny _ _ (call (Value.ref 49) _) _ _ _); refine hold_call ?_) | ((with_reducible show wpAny _ _ (getMethod (Value.ref _) _ _) _ _ _); k_dflt (refine' own_method ?q9k1 ?q9k2 ?q9k3 ?q9k4 ?q9k5 ?q9k6 ?q9k7 ?q9k8 ?q9k9 ?q9k10 ?q9k11 ?_; (case q9k1 => k_asm); (case q9k2 => k_asm); (case q9k3 => exact InstAt.of_news (by k_asm) (by k_mem) (by k_mem)); (case q9k4 => k_is); (case q9k5 => k_is); (case q9k6 => k_is); (case q9k7 => k_is); (case q9k8 => k_is); (case q9k9 => k_is); (case q9k10 => assumption); (case q9k11 => exact rfl); k_whole)) | ((with_reducible show wpAny _ _ (call (Value.ref (NodeV.fM _)) _) _ _ _); k_dflt (refine' maker_at ?q9b ?q9Bw ?q9F ?q9N ?q9hA ?q9hf ?q9hke ?q9hm ?q9hlg ?q9V ?q9hh ?q9hr ?q9hu ?q9hlog ?q9hes ?q9hl ?ret ?exc; (case q9b => assumption); (case q9Bw => assumption); (case q9F => k_asm); (case q9N => k_asm); (case q9hA => exact rfl); (case q9hf => exact rfl); (case q9hke => exact rfl); (case q9hm => k_mem); (case q9hlg => assumption); (case q9V => assumption); (case q9hh => assumption); (case q9hr => k_room); (case q9hu => k_room); (case q9hlog => assumption); (case q9hes => assumption); (case q9hl => assumption); k_whole); (case' ret => (intro _ _ _ _ _ _ _ _; refine held_out ?_)); (case' exc => intro _ _ _ _ _ _)) | ((with_reducible show wpAny _ _ (callWith _ (Value.ref _) _ _ _) _ _ _); k_dflt (first   | (refine' callWith_F ?q9k1 ?_; (case q9k1 => exact fnat_ground (by k_asm) (by assumption)); k_whole)   | (refine' callWith_F0 ?q9k1 ?_; (case q9k1 => exact fnat_ground (by k_asm) (by assumption)); k_whole; try dsimp only [List.nil_append, List.cons_append]))) | ((with_reducible show wpAny _ _ (call (Value.ref 63) _) _ _ _); k_dflt (refine' raise_at ?q9b ?q9Bw ?q9F ?q9N ?q9hA ?q9hf ?q9hke ?q9hh ?q9hr ?q9hu ?q9hk ?ret ?exc; (case q9b => assumption); (case q9Bw => assumption); (case q9F => k_asm); (case q9N => k_asm); (case q9hA => exact rfl); (case q9hf => exact rfl); (case q9hke => exact rfl); (case q9hh => assumption); (case q9hr => k_room); (case q9hu => k_room); (case q9hk => assumption); k_whole); (case' ret => (intro _ _ _ _ _; (try k_sweep))); (case' exc => intro _ _ _ _ _ _ _)) | ((with_reducible show wpAny _ _ (eval (Expr.Name _ _) _) _ _ _); k_dflt (refine' nameG ?q9F ?q9c ?q9v ?_ ?q9a ?q9b ?q9d ?q9n; (case q9a => rfl); (case q9b => rfl); (case q9d => decide); (case q9n => decide); (case q9F => k_asm); (case q9c => assumption); (case q9v => assumption); k_whole)) | (k_unfold; (try dsimp only)) | (k_end; wrow_close) | walk1 | (dsimp only; walk1) | (leave1; try dsimp only) | fail "no step")
          refine held (show_at b Bw₆ F₆ NZ rfl rfl rfl (List.Mem.tail _ (List.Mem.tail _ (List.Mem.head _))) hlg' VZ (.inl rfl) (by k_room) (by k_room) l₆ (by simp only [List.length_append, List.length_cons, List.length_nil]; omega) hl pZ hfn (fun hk9 h₉ tk₉ k₉ l₉ => ?_) fun hk9 h₉ tk₉ e₉ R₉ l₉ => ?_)
          · have l' : LogIs h₉ v.lg (es ++ ⟨0, v.n, .str (Str.ofString "")⟩ :: ⟨1, v.n, x⟩ :: (kidsTold nd (out nd len) (told nd len) j (len - (j + 1)) (j + 1) ++ [ent])) := by simpa only [List.append_assoc, List.cons_append, List.nil_append] using l₉
            obtain ⟨its9, n9, q9, _⟩ := id l'
            obtain ⟨gB, tB, FB, BwB, npB, _⟩ := back Bw₆ F₆ NZ rfl (X := [v.lg]) (fun z hz => by cases List.mem_singleton.mp hz; exact List.mem_map_of_mem (List.Mem.tail _ (List.Mem.tail _ (List.Mem.head _)))) k₉
            refine wpAny_execs_nil ⟨rfl, wpAny_execs_nil ?_⟩
            exact ret hk0 hk9 (.inr (excOf_se.mp hX)) h₉ _ (exitR_k hop hg (((t1.trans t5).trans t6).trans tB) FB (Tame.list q9)) l'
          · have l' : LogIs h₉ v.lg (es ++ ⟨0, v.n, .str (Str.ofString "")⟩ :: ⟨1, v.n, x⟩ :: (kidsTold nd (out nd len) (told nd len) j (len - (j + 1)) (j + 1) ++ [ent])) := by simpa only [List.append_assoc, List.cons_append, List.nil_append] using l₉
            obtain ⟨its9, n9, q9, _⟩ := id l'
            refine thrown_call (Xn := [v.lg]) hop hg ((t1.trans t5).trans t6) F₆ NZ Bw₆ rfl rfl (fun z hz => by cases List.mem_singleton.mp hz; exact List.mem_map_of_mem (List.Mem.tail _ (List.Mem.tail _ (List.Mem.head _)))) R₉ (Tame.list q9) fun hA q9 mv => ?_
            exact excL hk0 hk9 hA _ e₉ q9 (l'.moves mv (news_fs Bw₆ NZ rfl (p := (v.lg, _)) (List.Mem.tail _ (List.Mem.tail _ (List.Mem.head _)))))
        · obtain ⟨g₆, t6, F₆, Bw₆, np₆, ld₆⟩ := backM Bw₅ F₅ N₅ rfl (sp.mv.prot (t1.trans t5) (fun z y => np₅ z (np₁ z y)))
          have x6 := ld₆ _ (List.Mem.head _) (fun vs z => by cases z)
          have d6 := ld₆ _ (List.Mem.tail _ (List.Mem.head _)) (fun vs z => by cases z)
          dsimp only at x6 d6
          have l₆ := l₅'.moves sp.mv (news_fs Bw₅ N₅ rfl (p := (v.lg, _)) (List.Mem.tail _ (List.Mem.tail _ (List.Mem.head _))))
          clear F₅ N₅
          obtain ⟨itsZ, nZ, lZ, _⟩ := id l₆
          have NZ : News g₆ L h₆ [(x', instObj 52 xd), (xd, dictOf xes xn), (v.lg, W.listOf itsZ nZ)] := fun z hz => by
            rcases List.mem_cons.mp hz with rfl | hz
            · exact ⟨x6, nx1.1, (fun z y => np₆ z (np₅ z y)) _ nx1.2⟩
            · rcases List.mem_cons.mp hz with rfl | hz
              · exact ⟨d6, nx2.1, (fun z y => np₆ z (np₅ z y)) _ nx2.2⟩
              · cases List.mem_singleton.mp hz
                exact ⟨lZ, lgL.1, (fun z y => np₆ z (np₅ z y)) _ lgL₁⟩
          have XZ := b.X.keeps Bw₆.stays
          have TZ := b.T.keeps Bw₆.stays
          have VZ := V₁.keeps (t5.trans t6) Bw₁.frames (fun _ z => nomatch z)
          have uZ1 : g₆.get? q = some (instObj 52 qd) := ((t5.trans t6)).obj _ _ u1 (fun z => nomatch z) (fun z => w7 (List.mem_cons_of_mem _ z))
          have uZ2 : g₆.get? qd = some (dictOf qes qn) := ((t5.trans t6)).obj _ _ u2 (fun z => nomatch z) (fun z => w8 (List.mem_cons_of_mem _ z))
          have pZ : ProfAt h₆ x' v.fI v.fO v.fD v.fP := ⟨xd, xes, xn, x6, d6, p3, p4, p5, p6⟩
          change wpAny _ _ _ _ _ _
          try k_fold
          repeat' (first | ((with_reducible show wpAny _ _ (call (Value.ref 49) _) _ _ _); refine hold_call ?_) | ((with_reducible show wpAny _ _ (getMethod (Value.ref _) _ _) _ _ _); k_dflt (refine' own_method ?q9k1 ?q9k2 ?q9k3 ?q9k4 ?q9k5 ?q9k6 ?q9k7 ?q9k8 ?q9k9 ?q9k10 ?q9k11 ?_; (case q9k1 => k_asm); (case q9k2 => k_asm); (case q9k3 => exact InstAt.of_news (by k_asm) (by k_mem) (by k_mem)); (case q9k4 => k_is); (case q9k5 => k_is); (case q9k6 => k_is); (case q9k7 => k_is); (case q9k8 => k_is); (case q9k9 => k_is); (case q9k10 => assumption); (case q9k11 => exact rfl); k_whole)) | ((with_reducible show wpAny _ _ (call (Value.ref (NodeV.fM _)) _) _ _ _); k_dflt (refine' maker_at ?q9b ?q9Bw ?q9F ?q9N ?q9hA ?q9hf ?q9hke ?q9hm ?q9hlg ?q9V ?q9hh ?q9hr ?q9hu ?q9hlog ?q9hes ?q9hl ?ret ?exc; (case q9b => assumption); (case q9Bw => assumption); (case q9F => k_asm); (case q9N => k_asm); (case q9hA => exact rfl); (case q9hf => exact rfl); (case q9hke => exact rfl); (case q9hm => k_mem); (case q9hlg => assumption); (case q9V => assumption); (case q9hh => assumption); (case q9hr => k_room); (case q9hu => k_room); (case q9hlog => assumption); (case q9hes => assumption); (case q9hl => assumption); k_whole); (case' ret => (intro _ _ _ _ _ _ _ _; refine held_out ?_)); (case' exc => intro _ _ _ _ _ _)) | ((with_reducible show wpAny _ _ (callWith _ (Value.ref _) _ _ _) _ _ _); k_dflt (first   | (refine' callWith_F ?q9k1 ?_; (case q9k1 => exact fnat_ground (by k_asm) (by assumption)); k_whole)   | (refine' callWith_F0 ?q9k1 ?_; (case q9k1 => exact fnat_ground (by k_asm) (by assumption)); k_whole; try dsimp only [List.nil_append, List.cons_append]))) | ((with_reducible show wpAny _ _ (call (Value.ref 63) _) _ _ _); k_dflt (refine' raise_at ?q9b ?q9Bw ?q9F ?q9N ?q9hA ?q9hf ?q9hke ?q9hh ?q9hr ?q9hu ?q9hk ?ret ?exc; (case q9b => assumption); (case q9Bw => assumption); (case q9F => k_asm); (case q9N => k_asm); (case q9hA => exact rfl); (case q9hf => exact rfl); (case q9hke => exact rfl); (case q9hh => assumption); (case q9hr => k_room); (case q9hu => k_room); (case q9hk => assumption); k_whole); (case' ret => (intro _ _ _ _ _; (try k_sweep))); (case' exc => intro _ _ _ _ _ _ _)) | ((with_reducible show wpAny _ _ (eval (Expr.Name _ _) _) _ _ _); k_dflt (refine' nameG ?q9F ?q9c ?q9v ?_ ?q9a ?q9b ?q9d ?q9n; (case q9a => rfl); (case q9b => rfl); (case q9d => decide); (case q9n => decide); (case q9F => k_asm); (case q9c => assumption); (case q9v => assumption); k_whole)) | (k_unfold; (try dsimp only)) | (k_end; wrow_close) | walk1 | (dsimp only; walk1) | (leave1; try dsimp only) | fail "no step")
          refine held (show_at b Bw₆ F₆ NZ rfl rfl rfl (List.Mem.tail _ (List.Mem.tail _ (List.Mem.head _))) hlg' VZ (.inr ⟨e₅, x₅, n₅, rfl, sp.exc.hasCtx, hc₅.keeps sp.mv.ctx⟩) (by k_room) (by k_room) l₆ (by simp only [List.length_append, List.length_cons, List.length_nil]; omega) hl pZ hfn (fun hk9 h₉ tk₉ k₉ l₉ => ?_) fun hk9 h₉ tk₉ e₉ R₉ l₉ => ?_)
          · have l' : LogIs h₉ v.lg (es ++ ⟨0, v.n, .str (Str.ofString "")⟩ :: ⟨1, v.n, x⟩ :: (kidsTold nd (out nd len) (told nd len) j (len - (j + 1)) (j + 1) ++ [ent])) := by simpa only [List.append_assoc, List.cons_append, List.nil_append] using l₉
            obtain ⟨its9, n9, q9, _⟩ := id l'
            obtain ⟨gB, tB, FB, BwB, npB, _⟩ := back Bw₆ F₆ NZ rfl (X := [v.lg]) (fun z hz => by cases List.mem_singleton.mp hz; exact List.mem_map_of_mem (List.Mem.tail _ (List.Mem.tail _ (List.Mem.head _)))) k₉
            have hSS := k₉.slo
            have hXX : ∀ z ∈ [v.lg], ∃ o, h₆.get? z = some o ∧ ∀ vs, o.data ≠ .fields vs := fun z hz => by
              cases List.mem_singleton.mp hz
              exact ⟨_, lZ, fun vs q => by cases q⟩
            have e9 := sp.exc.keeps k₉ (fun z hz => ((pushX Bw₆ F₆ rfl rfl).frames.mem hz).2) hXX
            refine wpAny_execs_nil ⟨rfl, ?_, tb.keeps k₉ (fun z hz => ((pushX Bw₆ F₆ rfl rfl).frames.mem hz).2) hXX⟩
            refine thrown_k (O₁ := prot g outer) hop hg (((t1.trans t5).trans t6).trans tB) FB BwB rfl rfl e9 (fun _ q => q) ((hc₅.keeps sp.mv.ctx).keeps k₉.ctx) (Tame.list q9) fun hA q8 mv => ?_
            exact excO hk0 hk9 hk5 (fun z => hX (excOf_se.mpr z)) hA _ e₅ q8 (l'.moves mv (news_fs Bw₆ NZ rfl (p := (v.lg, _)) (List.Mem.tail _ (List.Mem.tail _ (List.Mem.head _)))))
          · have l' : LogIs h₉ v.lg (es ++ ⟨0, v.n, .str (Str.ofString "")⟩ :: ⟨1, v.n, x⟩ :: (kidsTold nd (out nd len) (told nd len) j (len - (j + 1)) (j + 1) ++ [ent])) := by simpa only [List.append_assoc, List.cons_append, List.nil_append] using l₉
            obtain ⟨its9, n9, q9, _⟩ := id l'
            refine thrown_call (Xn := [v.lg]) hop hg ((t1.trans t5).trans t6) F₆ NZ Bw₆ rfl rfl (fun z hz => by cases List.mem_singleton.mp hz; exact List.mem_map_of_mem (List.Mem.tail _ (List.Mem.tail _ (List.Mem.head _)))) R₉ (Tame.list q9) fun hA q9 mv => ?_
            exact excL hk0 hk9 hA _ e₉ q9 (l'.moves mv (news_fs Bw₆ NZ rfl (p := (v.lg, _)) (List.Mem.tail _ (List.Mem.tail _ (List.Mem.head _)))))
end

/-! F12 -/

section
variable {prog : Program} {w : World} {p : Program} {loose : List Str} {mean : ExcName → Option Value} {mg mb : Str → Option Value} {B : Heap} {A : Around} {outer : List Env} {s : Shared} {Q E : Value → Shared → Prop}
  {v : NodeV} {cm : Str → Addr} {tn to tl te : Tok} {es : List Ent} {nd : Nat → Nd} {len j : Nat}

theorem run_spec (b : Base w p loose mean mg mb B) (V : NodeAt w s.heap v cm tn to tl te) (hst : A.frames = some outer) (hB : B.StaysIn s.heap) (hff : s.heap.FunFrames B outer) (hlg : B.get? v.lg = none ∧ v.lg ∉ fs outer)
    (hA : A.handled = none) (hroom : A.depth + (50 * (len - (j + 1)) + 90) < recursionLimit) (hun : A.units + (200 * (len - (j + 1)) + 500) < cLine) (hN : NodesIs s.heap v.nl nd len) (hnl : v.nl ≠ v.lg) (hT : FullTab s.heap) (hlen : len ≤ 100)
    (hj : v.n = (j : Int)) (hjl : j < len) (hown : v.own = (nd j).own) (hok : ∀ i, i < len → (nd i).Ok) (ih : ∀ i, j < i → i < len → DoOk prog w B nd len i)
    (hlog : LogIs s.heap v.lg es) {x : EV} {u : Value} (hx : x.Is u) (hes : es.length + 1 ≤ 100000) (hesE : v.early = 0 → es.length + 3 + (kidsTold nd (out nd len) (told nd len) j (len - (j + 1)) (j + 1)).length ≤ 100000)
    (hl : 0 ≤ v.late ∧ v.late ≤ 3) (he : 0 ≤ v.early ∧ v.early ≤ 3) {q : Addr} {k : Int} {tk : Tok} {fn : Value} {ent : Ent} (hw : WorkAt (v.lg :: fs outer) s.heap q v.fM) (hfn : ShownIs v.n k fn ent)
    (ret : v.early = 0 → v.late = 0 → (kidsOut nd (out nd len) j v.own (len - (j + 1)) (j + 1) = 0 ∨ kidsOut nd (out nd len) j v.own (len - (j + 1)) (j + 1) = 1) → ∀ h' tk', Keeps (fs outer) [v.lg] s.heap h' → LogIs h' v.lg (es ++ ⟨0, v.n, .str (Str.ofString "")⟩ :: ⟨1, v.n, x⟩ :: (kidsTold nd (out nd len) (told nd len) j (len - (j + 1)) (j + 1) ++ [ent])) → Q .none { s with heap := h', toks := tk' })
    (excE : v.early ≠ 0 → ∀ h' tk' e, Raised outer [v.lg] s.heap h' e (excOf v.early) → LogIs h' v.lg (es ++ [⟨0, v.n, .str (Str.ofString "")⟩]) → E (.ref e) { s with heap := h', toks := tk' })
    (excL : v.early = 0 → v.late ≠ 0 → ∀ h' tk' e, Raised outer [v.lg] s.heap h' e (excOf v.late) → LogIs h' v.lg (es ++ ⟨0, v.n, .str (Str.ofString "")⟩ :: ⟨1, v.n, x⟩ :: (kidsTold nd (out nd len) (told nd len) j (len - (j + 1)) (j + 1) ++ [ent])) → E (.ref e) { s with heap := h', toks := tk' })
    (excO : v.early = 0 → v.late = 0 → kidsOut nd (out nd len) j v.own (len - (j + 1)) (j + 1) ≠ 0 → kidsOut nd (out nd len) j v.own (len - (j + 1)) (j + 1) ≠ 1 → ∀ h' tk' e, Raised outer [v.lg] s.heap h' e (excOf (kidsOut nd (out nd len) j v.own (len - (j + 1)) (j + 1))) → LogIs h' v.lg (es ++ ⟨0, v.n, .str (Str.ofString "")⟩ :: ⟨1, v.n, x⟩ :: (kidsTold nd (out nd len) (told nd len) j (len - (j + 1)) (j + 1) ++ [ent])) → E (.ref e) { s with heap := h', toks := tk' }) :
    wpAny (model prog w) A (call (.ref 35) [.ref q, u, fn, .int k tk]) Q E s := by
  have ff : PySem.Challenge.rw_kl0226_01 = PySem.Challenge.rw_kl0226_01 ∧ hd.heap_39 = hd.heap_39 := by
    k_fill
    exact ⟨rfl, rfl⟩
  clear ff
  obtain ⟨hd, dp, fr, gd, un⟩ := A
  cases hst
  dsimp only at hA hroom hun
  subst hA
  have X₀ := b.X.keeps hB
  obtain ⟨its, nn, hlo, hit⟩ := hlog
  have hop : Open B outer s.heap [(v.lg, listOf its nn)] := fun p hp => by cases List.mem_singleton.mp hp; exact ⟨hlo, hlg⟩
  have hod : ∀ p ∈ [(v.lg, listOf its nn)], s.heap.get? p.1 = some p.2 ∧ Odd p.2 := fun p hp => by cases List.mem_singleton.mp hp; exact ⟨hlo, .list⟩
  refine' enter_k (B := B) (binds := [(Str.ofString "self", .ref q), (Str.ofString "statement", u), (Str.ofString "filename", fn), (Str.ofString "sort", .int k tk)]) [(v.lg, listOf its nn)] rfl hB hff hop b.T.nolimit ?k1 ?k2 ?k3 ?k4 ?k5 ?k6 ?_ ?k7 ?k8 ?k9 ?k10
  case k1 => exact X₀ _ _ (by k_is)
  case k2 => exact rfl
  case k3 => exact codeRec_of X₀ (by k_is)
  case k4 => exact Nat.lt_of_le_of_lt (Nat.le_add_right _ _) hroom
  case k5 => exact BindsTo.of_eq rfl
  case k6 => exact locs rfl
  case k7 => decide
  case k8 => exact rfl
  case k9 => exact rfl
  case k10 => exact rfl
  intro g L h₁ hg hL F N Bw
  have X' := b.X.keeps Bw.stays
  have T' := b.T.keeps Bw.stays
  have V' := V.ground hod
  rw [← hg] at V'
  have hh' : HandOk g none := .inl rfl
  have hsz : its.size ≤ sizeLine := its_fit hit (by omega)
  have hX1 : ∀ z ∈ [(v.lg, listOf its nn)].map (·.1), ∀ o, s.heap.get? z = some o → o.cls ≠ .type "tuple" := fun z hz o q => by
    cases List.mem_singleton.mp hz
    rw [hlo] at q; cases q
    exact fun z => absurd (Value.type.inj z) (by decide)
  have hX2 : ∀ z ∈ [(v.lg, listOf its nn)].map (·.1), ∀ o, s.heap.get? z = some o → ∀ vs, o.data ≠ .fields vs := fun z hz o q vs e => by
    cases List.mem_singleton.mp hz
    rw [hlo] at q; cases q
    cases e
  have hN' : NodesIs g v.nl nd len := hg ▸ hN.ground (by simpa using hnl) hX1
  have hT' : FullTab g := hg ▸ hT.ground hX2
  have kM' := V'.kM
  have hlg' := hlg.1
  have hlog' : LogIs h₁ v.lg es := log_enter hlo hit hg F N
  have hes' : es.length ≤ 100000 := by omega
  obtain ⟨qd, qes, qn, w1, w2, w3, w4, w5, w6, w7, w8⟩ := hw
  have w1' : g.get? q = some (instObj 52 qd) := hg ▸ hideAll_get _ w1 fun z => w7 (by cases List.mem_singleton.mp z; exact List.Mem.head _)
  have w2' : g.get? qd = some (dictOf qes qn) := hg ▸ hideAll_get _ w2 fun z => w8 (by cases List.mem_singleton.mp z; exact List.Mem.head _)
  change wpAny _ _ _ _ _ _
  k_fold
  repeat' (first | ((with_reducible show wpAny _ _ (call (Value.ref 49) _) _ _ _); refine hold_call ?_) | ((with_reducible show wpAny _ _ (getMethod (Value.ref _) _ _) _ _ _); k_dflt (refine' own_method ?q9k1 ?q9k2 ?q9k3 ?q9k4 ?q9k5 ?q9k6 ?q9k7 ?q9k8 ?q9k9 ?q9k10 ?q9k11 ?_; (case q9k1 => k_asm); (case q9k2 => k_asm); (case q9k3 => exact InstAt.of_news (by k_asm) (by k_mem) (by k_mem)); (case q9k4 => k_is); (case q9k5 => k_is); (case q9k6 => k_is); (case q9k7 => k_is); (case q9k8 => k_is); (case q9k9 => k_is); (case q9k10 => assumption); (case q9k11 => exact rfl); k_whole)) | ((with_reducible show wpAny _ _ (call (Value.ref (NodeV.fM _)) _) _ _ _); k_dflt (refine' maker_at ?q9b ?q9Bw ?q9F ?q9N ?q9hA ?q9hf ?q9hke ?q9hm ?q9hlg ?q9V ?q9hh ?q9hr ?q9hu ?q9hlog ?q9hes ?q9hl ?ret ?exc; (case q9b => assumption); (case q9Bw => assumption); (case q9F => k_asm); (case q9N => k_asm); (case q9hA => exact rfl); (case q9hf => exact rfl); (case q9hke => exact rfl); (case q9hm => k_mem); (case q9hlg => assumption); (case q9V => assumption); (case q9hh => assumption); (case q9hr => k_room); (case q9hu => k_room); (case q9hlog => assumption); (case q9hes => assumption); (case q9hl => assumption); k_whole); (case' ret => (intro _ _ _ _ _ _ _ _; refine held_out ?_)); (case' exc => intro _ _ _ _ _ _)) | ((with_reducible show wpAny _ _ (callWith _ (Value.ref _) _ _ _) _ _ _); k_dflt (first   | (refine' callWith_F ?q9k1 ?_; (case q9k1 => exact fnat_ground (by k_asm) (by assumption)); k_whole)   | (refine' callWith_F0 ?q9k1 ?_; (case q9k1 => exact fnat_ground (by k_asm) (by assumption)); k_whole; try dsimp only [List.nil_append, List.cons_append]))) | ((with_reducible show wpAny _ _ (call (Value.ref 63) _) _ _ _); k_dflt (refine' raise_at ?q9b ?q9Bw ?q9F ?q9N ?q9hA ?q9hf ?q9hke ?q9hh ?q9hr ?q9hu ?q9hk ?ret ?exc; (case q9b => assumption); (case q9Bw => assumption); (case q9F => k_asm); (case q9N => k_asm); (case q9hA => exact rfl); (case q9hf => exact rfl); (case q9hke => exact rfl); (case q9hh => assumption); (case q9hr => k_room); (case q9hu => k_room); (case q9hk => assumption); k_whole); (case' ret => (intro _ _ _ _ _; (try k_sweep))); (case' exc => intro _ _ _ _ _ _ _)) | ((with_reducible show wpAny _ _ (eval (Expr.Name _ _) _) _ _ _); k_dflt (refine' nameG ?q9F ?q9c ?q9v ?_ ?q9a ?q9b ?q9d ?q9n; (case q9a => rfl); (case q9b => rfl); (case q9d => decide); (case q9n => decide); (case q9F => k_asm); (case q9c => assumption); (case q9v => assumption); k_whole)) | (k_unfold; (try dsimp only)) | (k_end; wrow_close) | walk1 | (dsimp only; walk1) | (leave1; try dsimp only) | fail "no step")
  · rename_i hk0 h₂ _ e' R' l'
    obtain ⟨its', n', q1⟩ := l'.at
    refine thrown_call (Xn := [v.lg]) hop hg (.refl _) F N Bw rfl rfl (fun z hz => by cases List.mem_singleton.mp hz; exact List.mem_map_of_mem (List.mem_singleton_self _)) R' (Tame.list q1) fun h₃ q mv => ?_
    exact excE hk0 h₃ _ e' q (l'.moves mv (news_fs Bw N rfl (List.mem_singleton_self _)))
  · rename_i hk0 h₂ tk₂ x' k' l' pr' nx'
    have hes := hesE hk0
    obtain ⟨its1, n1, q1⟩ := l'.at
    obtain ⟨g₁, t1, F₁, Bw₁, np₁, _⟩ := back Bw F N rfl (X := [v.lg]) (fun z hz => by cases List.mem_singleton.mp hz; exact List.mem_map_of_mem (List.mem_singleton_self _)) k'
    obtain ⟨xd, xes, xn, p1, p2, p3, p4, p5, p6⟩ := id pr'
    have lgL := (N (v.lg, _) (List.mem_singleton_self _)).2
    have gx : ∀ z, h₁.get? z = none → z ≠ L ∧ g.get? z = none := fun z e => by
      refine ⟨fun y => ?_, ?_⟩
      · obtain ⟨oL, _, _, e1, _⟩ := F.ns
        rw [y, e1] at e
        cases e
      · cases e' : g.get? z with
        | none => rfl
        | some o =>
          have := F.keep z o e'
          rw [e] at this
          cases this
    have N₁ : News g₁ L h₂ [(x', instObj 52 xd), (xd, dictOf xes xn), (v.lg, W.listOf its1 n1)] := fun z hz => by
      rcases List.mem_cons.mp hz with rfl | hz
      · exact ⟨p1, (gx _ nx'.1).1, np₁ _ (gx _ nx'.1).2⟩
      · rcases List.mem_cons.mp hz with rfl | hz
        · exact ⟨p2, (gx _ (nx'.2 _ p1)).1, np₁ _ (gx _ (nx'.2 _ p1)).2⟩
        · cases List.mem_singleton.mp hz
          exact ⟨q1, lgL.1, np₁ _ lgL.2⟩
    have X₁ := b.X.keeps Bw₁.stays
    have T₁ := b.T.keeps Bw₁.stays
    have V₁ := V'.keeps t1 Bw.frames (fun _ z => nomatch z)
    have kI₁ := V₁.kI
    have kO₁ := V₁.kO
    have hN₁ := hN'.keeps t1 (fun z => nomatch z) (fun _ z => nomatch z)
    have hT₁ := hT'.keeps t1 Bw.frames (fun _ z => nomatch z)
    have u1 : g₁.get? q = some (instObj 52 qd) := t1.obj _ _ w1' (fun z => nomatch z) (fun z => w7 (List.mem_cons_of_mem _ z))
    have u2 : g₁.get? qd = some (dictOf qes qn) := t1.obj _ _ w2' (fun z => nomatch z) (fun z => w8 (List.mem_cons_of_mem _ z))
    clear w1' w2' X' T' V' hN' hT' kM' hlog' F N
    refine held (wpAny_storeName_local rfl F₁.ns (fun h₃ hn₃ hs₃ => ?_) rfl)
    have F₃ := F₁.set hn₃ hs₃
    have N₃ := N₁.set hs₃
    obtain ⟨oL, esL, epL, nL1, nL2, nL3⟩ := id F₁.ns
    have l₃ : LogIs h₃ v.lg (es ++ [⟨0, v.n, .str (Str.ofString "")⟩]) := l'.seq fun b o _ _ z z' => (hs₃.2 b fun y => by rw [y, nL1] at z; cases z; rw [nL2] at z'; cases z').trans z
    clear F₁ N₁ nL1 nL2 nL3 q1
    have x3 := (N₃ _ (List.Mem.head _)).1
    have d3 := (N₃ _ (List.Mem.tail _ (List.Mem.head _))).1
    have nx1 := (N₃ _ (List.Mem.head _)).2
    have nx2 := (N₃ _ (List.Mem.tail _ (List.Mem.head _))).2
    have lgL₁ := np₁ _ lgL.2
    dsimp only at x3 d3 nx1 nx2 lgL lgL₁
    have xlg : x' ∉ [v.lg] := fun z => by
      have q1 := (N₃ (v.lg, _) (List.Mem.tail _ (List.Mem.tail _ (List.Mem.head _)))).1
      have q2 := (congrArg h₃.get? (List.mem_singleton.mp z)).symm.trans x3
      dsimp only at q1
      rw [q1] at q2
      cases congrArg Obj.data (Option.some.inj q2)
    have dlg : xd ∉ [v.lg] := fun z => by
      have q1 := (N₃ (v.lg, _) (List.Mem.tail _ (List.Mem.tail _ (List.Mem.head _)))).1
      have q2 := (congrArg h₃.get? (List.mem_singleton.mp z)).symm.trans d3
      dsimp only at q1
      rw [q1] at q2
      cases congrArg Obj.data (Option.some.inj q2)
    have hes₃ : (es ++ [(⟨0, v.n, .str (Str.ofString "")⟩ : Ent)]).length + 1 + (kidsTold nd (out nd len) (told nd len) j (len - (j + 1)) (j + 1)).length ≤ 100000 := by simp only [List.length_append, List.length_cons, List.length_nil]; omega
    change wpAny _ _ _ _ _ _
    try k_fold
    repeat' (first | ((with_reducible show wpAny _ _ (call (Value.ref 49) _) _ _ _); refine hold_call ?_) | ((with_reducible show wpAny _ _ (getMethod (Value.ref _) _ _) _ _ _); k_dflt (refine' own_method ?q9k1 ?q9k2 ?q9k3 ?q9k4 ?q9k5 ?q9k6 ?q9k7 ?q9k8 ?q9k9 ?q9k10 ?q9k11 ?_; (case q9k1 => k_asm); (case q9k2 => k_asm); (case q9k3 => exact InstAt.of_news (by k_asm) (by k_mem) (by k_mem)); (case q9k4 => k_is); (case q9k5 => k_is); (case q9k6 => k_is); (case q9k7 => k_is); (case q9k8 => k_is); (case q9k9 => k_is); (case q9k10 => assumption); (case q9k11 => exact rfl); k_whole)) | ((with_reducible show wpAny _ _ (call (Value.ref (NodeV.fM _)) _) _ _ _); k_dflt (refine' maker_at ?q9b ?q9Bw ?q9F ?q9N ?q9hA ?q9hf ?q9hke ?q9hm ?q9hlg ?q9V ?q9hh ?q9hr ?q9hu ?q9hlog ?q9hes ?q9hl ?ret ?exc; (case q9b => assumption); (case q9Bw => assumption); (case q9F => k_asm); (case q9N => k_asm); (case q9hA => exact rfl); (case q9hf => exact rfl); (case q9hke => exact rfl); (case q9hm => k_mem); (case q9hlg => assumption); (case q9V => assumption); (case q9hh => assumption); (case q9hr => k_room); (case q9hu => k_room); (case q9hlog => assumption); (case q9hes => assumption); (case q9hl => assumption); k_whole); (case' ret => (intro _ _ _ _ _ _ _ _; refine held_out ?_)); (case' exc => intro _ _ _ _ _ _)) | ((with_reducible show wpAny _ _ (callWith _ (Value.ref _) _ _ _) _ _ _); k_dflt (first   | (refine' callWith_F ?q9k1 ?_; (case q9k1 => exact fnat_ground (by k_asm) (by assumption)); k_whole)   | (refine' callWith_F0 ?q9k1 ?_; (case q9k1 => exact fnat_ground (by k_asm) (by assumption)); k_whole; try dsimp only [List.nil_append, List.cons_append]))) | ((with_reducible show wpAny _ _ (call (Value.ref 63) _) _ _ _); k_dflt (refine' raise_at ?q9b ?q9Bw ?q9F ?q9N ?q9hA ?q9hf ?q9hke ?q9hh ?q9hr ?q9hu ?q9hk ?ret ?exc; (case q9b => assumption); (case q9Bw => assumption); (case q9F => k_asm); (case q9N => k_asm); (case q9hA => exact rfl); (case q9hf => exact rfl); (case q9hke => exact rfl); (case q9hh => assumption); (case q9hr => k_room); (case q9hu => k_room); (case q9hk => assumption); k_whole); (case' ret => (intro _ _ _ _ _; (try k_sweep))); (case' exc => intro _ _ _ _ _ _ _)) | ((with_reducible show wpAny _ _ (eval (Expr.Name _ _) _) _ _ _); k_dflt (refine' nameG ?q9F ?q9c ?q9v ?_ ?q9a ?q9b ?q9d ?q9n; (case q9a => rfl); (case q9b => rfl); (case q9d => decide); (case q9n => decide); (case q9F => k_asm); (case q9c => assumption); (case q9v => assumption); k_whole)) | (k_unfold; (try dsimp only)) | (k_end; wrow_close) | walk1 | (dsimp only; walk1) | (leave1; try dsimp only) | fail "no step")
    refine held (TryFin_k (O := prot g outer) (E := E) rfl rfl ?name ?body)
    case name =>
      intro A' E' s' hO
      have hB' : B.StaysIn s'.heap := fun b o e => hO b o (prot_get (Bw.stays b o e) (base_fs Bw e))
      have XB := b.X.keeps hB'
      have TB := b.T.keeps hB'
      exact nameB XB TB (by k_is) (by boot_by_name) (by decide) ⟨rfl, rfl⟩
    case body =>
      change wpAny _ _ _ _ _ _
      try k_fold
      repeat' (first | ((with_reducible show wpAny _ _ (call (Value.ref 49) _) _ _ _); refine hold_call ?_) | ((with_reducible show wpAny _ _ (getMethod (Value.ref _) _ _) _ _ _); k_dflt (refine' own_method ?q9k1 ?q9k2 ?q9k3 ?q9k4 ?q9k5 ?q9k6 ?q9k7 ?q9k8 ?q9k9 ?q9k10 ?q9k11 ?_; (case q9k1 => k_asm); (case q9k2 => k_asm); (case q9k3 => exact InstAt.of_news (by k_asm) (by k_mem) (by k_mem)); (case q9k4 => k_is); (case q9k5 => k_is); (case q9k6 => k_is); (case q9k7 => k_is); (case q9k8 => k_is); (case q9k9 => k_is); (case q9k10 => assumption); (case q9k11 => exact rfl); k_whole)) | ((with_reducible show wpAny _ _ (call (Value.ref (NodeV.fM _)) _) _ _ _); k_dflt (refine' maker_at ?q9b ?q9Bw ?q9F ?q9N ?q9hA ?q9hf ?q9hke ?q9hm ?q9hlg ?q9V ?q9hh ?q9hr ?q9hu ?q9hlog ?q9hes ?q9hl ?ret ?exc; (case q9b => assumption); (case q9Bw => assumption); (case q9F => k_asm); (case q9N => k_asm); (case q9hA => exact rfl); (case q9hf => exact rfl); (case q9hke => exact rfl); (case q9hm => k_mem); (case q9hlg => assumption); (case q9V => assumption); (case q9hh => assumption); (case q9hr => k_room); (case q9hu => k_room); (case q9hlog => assumption); (case q9hes => assumption); (case q9hl => assumption); k_whole); (case' ret => (intro _ _ _ _ _ _ _ _; refine held_out ?_)); (case' exc => intro _ _ _ _ _ _)) | ((with_reducible show wpAny _ _ (callWith _ (Value.ref _) _ _ _) _ _ _); k_dflt (first   | (refine' callWith_F ?q9k1 ?_; (case q9k1 => exact fnat_ground (by k_asm) (by assumption)); k_whole)   | (refine' callWith_F0 ?q9k1 ?_; (case q9k1 => exact fnat_ground (by k_asm) (by assumption)); k_whole; try dsimp only [List.nil_append, List.cons_append]))) | ((with_reducible show wpAny _ _ (call (Value.ref 63) _) _ _ _); k_dflt (refine' raise_at ?q9b ?q9Bw ?q9F ?q9N ?q9hA ?q9hf ?q9hke ?q9hh ?q9hr ?q9hu ?q9hk ?ret ?exc; (case q9b => assumption); (case q9Bw => assumption); (case q9F => k_asm); (case q9N => k_asm); (case q9hA => exact rfl); (case q9hf => exact rfl); (case q9hke => exact rfl); (case q9hh => assumption); (case q9hr => k_room); (case q9hu => k_room); (case q9hk => assumption); k_whole); (case' ret => (intro _ _ _ _ _; (try k_sweep))); (case' exc => intro _ _ _ _ _ _ _)) | ((with_reducible show wpAny _ _ (eval (Expr.Name _ _) _) _ _ _); k_dflt (refine' nameG ?q9F ?q9c ?q9v ?_ ?q9a ?q9b ?q9d ?q9n; (case q9a => rfl); (case q9b => rfl); (case q9d => decide); (case q9n => decide); (case q9F => k_asm); (case q9c => assumption); (case q9v => assumption); k_whole)) | (k_unfold; (try dsimp only)) | (k_end; wrow_close) | walk1 | (dsimp only; walk1) | (leave1; try dsimp only) | fail "no step")
      refine inside_at (es := es ++ [⟨0, v.n, .str (Str.ofString "")⟩]) b Bw₁ F₃ N₃ rfl rfl rfl (List.Mem.tail _ (List.Mem.tail _ (List.Mem.head _))) hlg' V₁ rfl (by k_room) (by k_room) hN₁ hnl hT₁ hlen hj hjl hown hok ih l₃ hx hes₃ (fun hk5 h₅ tk₅ k₅ l₅ => ?_) fun hk5 h₅ tk₅ e₅ R₅ l₅ => ?_
      · have l₅' : LogIs h₅ v.lg (es ++ ⟨0, v.n, .str (Str.ofString "")⟩ :: ⟨1, v.n, x⟩ :: kidsTold nd (out nd len) (told nd len) j (len - (j + 1)) (j + 1)) := by simpa only [List.append_assoc, List.cons_append, List.nil_append] using l₅
        obtain ⟨g₅, t5, F₅, Bw₅, np₅, ld₅⟩ := back Bw₁ F₃ N₃ rfl (X := [v.lg]) (fun z hz => by cases List.mem_singleton.mp hz; exact List.mem_map_of_mem (List.Mem.tail _ (List.Mem.tail _ (List.Mem.head _)))) k₅
        have x5 := ld₅ _ (List.Mem.head _) xlg
        have d5 := ld₅ _ (List.Mem.tail _ (List.Mem.head _)) dlg
        dsimp only at x5 d5
        clear F₃ N₃ X₁ T₁
        refine wpAny_execs_nil ⟨rfl, ?_⟩
        obtain ⟨itsZ, nZ, lZ, _⟩ := id l₅'
        have NZ : News g₅ L h₅ [(x', instObj 52 xd), (xd, dictOf xes xn), (v.lg, W.listOf itsZ nZ)] := fun z hz => by
          rcases List.mem_cons.mp hz with rfl | hz
          · exact ⟨x5, nx1.1, np₅ _ nx1.2⟩
          · rcases List.mem_cons.mp hz with rfl | hz
            · exact ⟨d5, nx2.1, np₅ _ nx2.2⟩
            · cases List.mem_singleton.mp hz
              exact ⟨lZ, lgL.1, np₅ _ lgL₁⟩
        have XZ := b.X.keeps Bw₅.stays
        have TZ := b.T.keeps Bw₅.stays
        have VZ := V₁.keeps t5 Bw₁.frames (fun _ z => nomatch z)
        have uZ1 : g₅.get? q = some (instObj 52 qd) := (t5).obj _ _ u1 (fun z => nomatch z) (fun z => w7 (List.mem_cons_of_mem _ z))
        have uZ2 : g₅.get? qd = some (dictOf qes qn) := (t5).obj _ _ u2 (fun z => nomatch z) (fun z => w8 (List.mem_cons_of_mem _ z))
        have pZ : ProfAt h₅ x' v.fI v.fO v.fD v.fP := ⟨xd, xes, xn, x5, d5, p3, p4, p5, p6⟩
        change wpAny _ _ _ _ _ _
        try k_fold
        repeat' (first | ((with_reducible show wpAny _ _ (call (Value.ref 49) _) _ _ _); refine hold_call ?_) | ((with_reducible show wpAny _ _ (getMethod (Value.ref _) _ _) _ _ _); k_dflt (refine' own_method ?q9k1 ?q9k2 ?q9k3 ?q9k4 ?q9k5 ?q9k6 ?q9k7 ?q9k8 ?q9k9 ?q9k10 ?q9k11 ?_; (case q9k1 => k_asm); (case q9k2 => k_asm); (case q9k3 => exact InstAt.of_news (by k_asm) (by k_mem) (by k_mem)); (case q9k4 => k_is); (case q9k5 => k_is); (case q9k6 => k_is); (case q9k7 => k_is); (case q9k8 => k_is); (case q9k9 => k_is); (case q9k10 => assumption); (case q9k11 => exact rfl); k_whole)) | ((with_reducible show wpAny _ _ (call (Value.ref (NodeV.fM _)) _) _ _ _); k_dflt (refine' maker_at ?q9b ?q9Bw ?q9F ?q9N ?q9hA ?q9hf ?q9hke ?q9hm ?q9hlg ?q9V ?q9hh ?q9hr ?q9hu ?q9hlog ?q9hes ?q9hl ?ret ?exc; (case q9b => assumption); (case q9Bw => assumption); (case q9F => k_asm); (case q9N => k_asm); (case q9hA => exact rfl); (case q9hf => exact rfl); (case q9hke => exact rfl); (case q9hm => k_mem); (case q9hlg => assumption); (case q9V => assumption); (case q9hh => assumption); (case q9hr => k_room); (case q9hu => k_room); (case q9hlog => assumption); (case q9hes => assumption); (case q9hl => assumption); k_whole); (case' ret => (intro _ _ _ _ _ _ _ _; refine held_out ?_)); (case' exc => intro _ _ _ _ _ _)) | ((with_reducible show wpAny _ _ (callWith _ (Value.ref _) _ _ _) _ _ _); k_dflt (first   | (refine' callWith_F ?q9k1 ?_; (case q9k1 => exact fnat_ground (by k_asm) (by assumption)); k_whole)   | (refine' callWith_F0 ?q9k1 ?_; (case q9k1 => exact fnat_ground (by k_asm) (by assumption)); k_whole; try dsimp only [List.nil_append, List.cons_append]))) | ((with_reducible show wpAny _ _ (call (Value.ref 63) _) _ _ _); k_dflt (refine' raise_at ?q9b ?q9Bw ?q9F ?q9N ?q9hA ?q9hf ?q9hke ?q9hh ?q9hr ?q9hu ?q9hk ?ret ?exc; (case q9b => assumption); (case q9Bw => assumption); (case q9F => k_asm); (case q9N => k_asm); (case q9hA => exact rfl); (case q9hf => exact rfl); (case q9hke => exact rfl); (case q9hh => assumption); (case q9hr => k_room); (case q9hu => k_room); (case q9hk => assumption); k_whole); (case' ret => (intro _ _ _ _ _; (try k_sweep))); (case' exc => intro _ _ _ _ _ _ _)) | ((with_reducible show wpAny _ _ (eval (Expr.Name _ _) _) _ _ _); k_dflt (refine' nameG ?q9F ?q9c ?q9v ?_ ?q9a ?q9b ?q9d ?q9n; (case q9a => rfl); (case q9b => rfl); (case q9d => decide); (case q9n => decide); (case q9F => k_asm); (case q9c => assumption); (case q9v => assumption); k_whole)) | (k_unfold; (try dsimp only)) | (k_end; wrow_close) | walk1 | (dsimp only; walk1) | (leave1; try dsimp only) | fail "no step")
        refine held (show_at b Bw₅ F₅ NZ rfl rfl rfl (List.Mem.tail _ (List.Mem.tail _ (List.Mem.head _))) hlg' VZ (.inl rfl) (by k_room) (by k_room) l₅' (by simp only [List.length_append, List.length_cons, List.length_nil]; omega) hl pZ hfn (fun hk9 h₉ tk₉ k₉ l₉ => ?_) fun hk9 h₉ tk₉ e₉ R₉ l₉ => ?_)
        · have l' : LogIs h₉ v.lg (es ++ ⟨0, v.n, .str (Str.ofString "")⟩ :: ⟨1, v.n, x⟩ :: (kidsTold nd (out nd len) (told nd len) j (len - (j + 1)) (j + 1) ++ [ent])) := by simpa only [List.append_assoc, List.cons_append, List.nil_append] using l₉
          obtain ⟨its9, n9, q9, _⟩ := id l'
          obtain ⟨gB, tB, FB, BwB, npB, _⟩ := back Bw₅ F₅ NZ rfl (X := [v.lg]) (fun z hz => by cases List.mem_singleton.mp hz; exact List.mem_map_of_mem (List.Mem.tail _ (List.Mem.tail _ (List.Mem.head _)))) k₉
          refine wpAny_execs_nil ⟨rfl, wpAny_execs_nil ?_⟩
          exact ret hk0 hk9 (.inl hk5) h₉ _ (exitR_k hop hg ((t1.trans t5).trans tB) FB (Tame.list q9)) l'
        · have l' : LogIs h₉ v.lg (es ++ ⟨0, v.n, .str (Str.ofString "")⟩ :: ⟨1, v.n, x⟩ :: (kidsTold nd (out nd len) (told nd len) j (len - (j + 1)) (j + 1) ++ [ent])) := by simpa only [List.append_assoc, List.cons_append, List.nil_append] using l₉
          obtain ⟨its9, n9, q9, _⟩ := id l'
          refine thrown_call (Xn := [v.lg]) hop hg (t1.trans t5) F₅ NZ Bw₅ rfl rfl (fun z hz => by cases List.mem_singleton.mp hz; exact List.mem_map_of_mem (List.Mem.tail _ (List.Mem.tail _ (List.Mem.head _)))) R₉ (Tame.list q9) fun hA q9 mv => ?_
          exact excL hk0 hk9 hA _ e₉ q9 (l'.moves mv (news_fs Bw₅ NZ rfl (p := (v.lg, _)) (List.Mem.tail _ (List.Mem.tail _ (List.Mem.head _)))))
      · have l₅' : LogIs h₅ v.lg (es ++ ⟨0, v.n, .str (Str.ofString "")⟩ :: ⟨1, v.n, x⟩ :: kidsTold nd (out nd len) (told nd len) j (len - (j + 1)) (j + 1)) := by simpa only [List.append_assoc, List.cons_append, List.nil_append] using l₅
        obtain ⟨g₅, t5, F₅, Bw₅, np₅, ld₅⟩ := back Bw₁ F₃ N₃ rfl (X := [v.lg]) (fun z hz => by cases List.mem_singleton.mp hz; exact List.mem_map_of_mem (List.Mem.tail _ (List.Mem.tail _ (List.Mem.head _)))) R₅.keeps
        obtain ⟨x₅, n₅, hx₅, hc₅⟩ := R₅.exc
        have x5 := ld₅ _ (List.Mem.head _) xlg
        have d5 := ld₅ _ (List.Mem.tail _ (List.Mem.head _)) dlg
        dsimp only at x5 d5
        have ie₅ : IsExc (prot g outer) h₅ e₅ _ x₅ := hx₅.base (old_mono t1 F₃ rfl (fun z hz => by cases List.mem_singleton.mp hz; exact lgL₁))
        have st₅ := prot_stays (t1.trans t5) F₅
        clear F₃ N₃ X₁ T₁
        obtain ⟨its5, n5, q5, _⟩ := id l₅'
        have N₅ : News g₅ L h₅ [(x', instObj 52 xd), (xd, dictOf xes xn), (v.lg, W.listOf its5 n5)] := fun z hz => by
          rcases List.mem_cons.mp hz with rfl | hz
          · exact ⟨x5, nx1.1, np₅ _ nx1.2⟩
          · rcases List.mem_cons.mp hz with rfl | hz
            · exact ⟨d5, nx2.1, np₅ _ nx2.2⟩
            · cases List.mem_singleton.mp hz
              exact ⟨q5, lgL.1, np₅ _ lgL₁⟩
        refine ⟨e₅, _, x₅, n₅, rfl, ie₅, hc₅, st₅, (prot_push (t1.trans t5) F₅ Bw₅ rfl rfl).2, fun hX h₆ sp => ?_, fun hX h₆ sp tb => ?_⟩
        · obtain ⟨g₆, t6, F₆, Bw₆, np₆, ld₆⟩ := backM Bw₅ F₅ N₅ rfl (sp.mv.prot (t1.trans t5) (fun z y => np₅ z (np₁ z y)))
          have x6 := ld₆ _ (List.Mem.head _) (fun vs z => by cases z)
          have d6 := ld₆ _ (List.Mem.tail _ (List.Mem.head _)) (fun vs z => by cases z)
          dsimp only at x6 d6
          have l₆ := l₅'.moves sp.mv (news_fs Bw₅ N₅ rfl (p := (v.lg, _)) (List.Mem.tail _ (List.Mem.tail _ (List.Mem.head _))))
          clear F₅ N₅
          obtain ⟨itsZ, nZ, lZ, _⟩ := id l₆
          have NZ : News g₆ L h₆ [(x', instObj 52 xd), (xd, dictOf xes xn), (v.lg, W.listOf itsZ nZ)] := fun z hz => by
            rcases List.mem_cons.mp hz with rfl | hz
            · exact ⟨x6, nx1.1, (fun z y => np₆ z (np₅ z y)) _ nx1.2⟩
            · rcases List.mem_cons.mp hz with rfl | hz
              · exact ⟨d6, nx2.1, (fun z y => np₆ z (np₅ z y)) _ nx2.2⟩
              · cases List.mem_singleton.mp hz
                exact ⟨lZ, lgL.1, (fun z y => np₆ z (np₅ z y)) _ lgL₁⟩
          have XZ := b.X.keeps Bw₆.stays
          have TZ := b.T.keeps Bw₆.stays
          have VZ := V₁.keeps (t5.trans t6) Bw₁.frames (fun _ z => nomatch z)
          have uZ1 : g₆.get? q = some (instObj 52 qd) := ((t5.trans t6)).obj _ _ u1 (fun z => nomatch z) (fun z => w7 (List.mem_cons_of_mem _ z))
          have uZ2 : g₆.get? qd = some (dictOf qes qn) := ((t5.trans t6)).obj _ _ u2 (fun z => nomatch z) (fun z => w8 (List.mem_cons_of_mem _ z))
          have pZ : ProfAt h₆ x' v.fI v.fO v.fD v.fP := ⟨xd, xes, xn, x6, d6, p3, p4, p5, p6⟩
          change wpAny _ _ _ _ _ _
          try k_fold
          repeat' (first | ((with_reducible show wpAny _ _ (call (Value.ref 49) _) _ _ _); refine hold_call ?_) | ((with_reducible show wpAny _ _ (getMethod (Value.ref _) _ _) _ _ _); k_dflt (refine' own_method ?q9k1 ?q9k2 ?q9k3 ?q9k4 ?q9k5 ?q9k6 ?q9k7 ?q9k8 ?q9k9 ?q9k10 ?q9k11 ?_; (case q9k1 => k_asm); (case q9k2 => k_asm); (case q9k3 => exact InstAt.of_news (by k_asm) (by k_mem) (by k_mem)); (case q9k4 => k_is); (case q9k5 => k_is); (case q9k6 => k_is); (case q9k7 => k_is); (case q9k8 => k_is); (case q9k9 => k_is); (case q9k10 => assumption); (case q9k11 => exact rfl); k_whole)) | ((with_reducible show wpAny _ _ (call (Value.ref (NodeV.fM _)) _) _ _ _); k_dflt (refine' maker_at ?q9b ?q9Bw ?q9F ?q9N ?q9hA ?q9hf ?q9hke ?q9hm ?q9hlg ?q9V ?q9hh ?q9hr ?q9hu ?q9hlog ?q9hes ?q9hl ?ret ?exc; (case q9b => assumption); (case q9Bw => assumption); (case q9F => k_asm); (case q9N => k_asm); (case q9hA => exact rfl); (case q9hf => exact rfl); (case q9hke => exact rfl); (case q9hm => k_mem); (case q9hlg => assumption); (case q9V => assumption); (case q9hh => assumption); (case q9hr => k_room); (case q9hu => k_room); (case q9hlog => assumption); (case q9hes => assumption); (case q9hl => assumption); k_whole); (case' ret => (intro _ _ _ _ _ _ _ _; refine held_out ?_)); (case' exc => intro _ _ _ _ _ _)) | ((with_reducible show wpAny _ _ (callWith _ (Value.ref _) _ _ _) _ _ _); k_dflt (first   | (refine' callWith_F ?q9k1 ?_; (case q9k1 => exact fnat_ground (by k_asm) (by assumption)); k_whole)   | (refine' callWith_F0 ?q9k1 ?_; (case q9k1 => exact fnat_ground (by k_asm) (by assumption)); k_whole; try dsimp only [List.nil_append, List.cons_append]))) | ((with_reducible show wpAny _ _ (call (Value.ref 63) _) _ _ _); k_dflt (refine' raise_at ?q9b ?q9Bw ?q9F ?q9N ?q9hA ?q9hf ?q9hke ?q9hh ?q9hr ?q9hu ?q9hk ?ret ?exc; (case q9b => assumption); (case q9Bw => assumption); (case q9F => k_asm); (case q9N => k_asm); (case q9hA => exact rfl); (case q9hf => exact rfl); (case q9hke => exact rfl); (case q9hh => assumption); (case q9hr => k_room); (case q9hu => k_room); (case q9hk => assumption); k_whole); (case' ret => (intro _ _ _ _ _; (try k_sweep))); (case' exc => intro _ _ _ _ _ _ _)) | ((with_reducible show wpAny _ _ (eval (Expr.Name _ _) _) _ _ _); k_dflt (refine' nameG ?q9F ?q9c ?q9v ?_ ?q9a ?q9b ?q9d ?q9n; (case q9a => rfl); (case q9b => rfl); (case q9d => decide); (case q9n => decide); (case q9F => k_asm); (case q9c => assumption); (case q9v => assumption); k_whole)) | (k_unfold; (try dsimp only)) | (k_end; wrow_close) | walk1 | (dsimp only; walk1) | (leave1; try dsimp only) | fail "no step")
          refine held (show_at b Bw₆ F₆ NZ rfl rfl rfl (List.Mem.tail _ (List.Mem.tail _ (List.Mem.head _))) hlg' VZ (.inl rfl) (by k_room) (by k_room) l₆ (by simp only [List.length_append, List.length_cons, List.length_nil]; omega) hl pZ hfn (fun hk9 h₉ tk₉ k₉ l₉ => ?_) fun hk9 h₉ tk₉ e₉ R₉ l₉ => ?_)
          · have l' : LogIs h₉ v.lg (es ++ ⟨0, v.n, .str (Str.ofString "")⟩ :: ⟨1, v.n, x⟩ :: (kidsTold nd (out nd len) (told nd len) j (len - (j + 1)) (j + 1) ++ [ent])) := by simpa only [List.append_assoc, List.cons_append, List.nil_append] using l₉
            obtain ⟨its9, n9, q9, _⟩ := id l'
            obtain ⟨gB, tB, FB, BwB, npB, _⟩ := back Bw₆ F₆ NZ rfl (X := [v.lg]) (fun z hz => by cases List.mem_singleton.mp hz; exact List.mem_map_of_mem (List.Mem.tail _ (List.Mem.tail _ (List.Mem.head _)))) k₉
            refine wpAny_execs_nil ⟨rfl, wpAny_execs_nil ?_⟩
            exact ret hk0 hk9 (.inr (excOf_se.mp hX)) h₉ _ (exitR_k hop hg (((t1.trans t5).trans t6).trans tB) FB (Tame.list q9)) l'
          · have l' : LogIs h₉ v.lg (es ++ ⟨0, v.n, .str (Str.ofString "")⟩ :: ⟨1, v.n, x⟩ :: (kidsTold nd (out nd len) (told nd len) j (len - (j + 1)) (j + 1) ++ [ent])) := by simpa only [List.append_assoc, List.cons_append, List.nil_append] using l₉
            obtain ⟨its9, n9, q9, _⟩ := id l'
            refine thrown_call (Xn := [v.lg]) hop hg ((t1.trans t5).trans t6) F₆ NZ Bw₆ rfl rfl (fun z hz => by cases List.mem_singleton.mp hz; exact List.mem_map_of_mem (List.Mem.tail _ (List.Mem.tail _ (List.Mem.head _)))) R₉ (Tame.list q9) fun hA q9 mv => ?_
            exact excL hk0 hk9 hA _ e₉ q9 (l'.moves mv (news_fs Bw₆ NZ rfl (p := (v.lg, _)) (List.Mem.tail _ (List.Mem.tail _ (List.Mem.head _)))))
        · obtain ⟨g₆, t6, F₆, Bw₆, np₆, ld₆⟩ := backM Bw₅ F₅ N₅ rfl (sp.mv.prot (t1.trans t5) (fun z y => np₅ z (np₁ z y)))
          have x6 := ld₆ _ (List.Mem.head _) (fun vs z => by cases z)
          have d6 := ld₆ _ (List.Mem.tail _ (List.Mem.head _)) (fun vs z => by cases z)
          dsimp only at x6 d6
          have l₆ := l₅'.moves sp.mv (news_fs Bw₅ N₅ rfl (p := (v.lg, _)) (List.Mem.tail _ (List.Mem.tail _ (List.Mem.head _))))
          clear F₅ N₅
          obtain ⟨itsZ, nZ, lZ, _⟩ := id l₆
          have NZ : News g₆ L h₆ [(x', instObj 52 xd), (xd, dictOf xes xn), (v.lg, W.listOf itsZ nZ)] := fun z hz => by
            rcases List.mem_cons.mp hz with rfl | hz
            · exact ⟨x6, nx1.1, (fun z y => np₆ z (np₅ z y)) _ nx1.2⟩
            · rcases List.mem_cons.mp hz with rfl | hz
              · exact ⟨d6, nx2.1, (fun z y => np₆ z (np₅ z y)) _ nx2.2⟩
              · cases List.mem_singleton.mp hz
                exact ⟨lZ, lgL.1, (fun z y => np₆ z (np₅ z y)) _ lgL₁⟩
          have XZ := b.X.keeps Bw₆.stays
          have TZ := b.T.keeps Bw₆.stays
          have VZ := V₁.keeps (t5.trans t6) Bw₁.frames (fun _ z => nomatch z)
          have uZ1 : g₆.get? q = some (instObj 52 qd) := ((t5.trans t6)).obj _ _ u1 (fun z => nomatch z) (fun z => w7 (List.mem_cons_of_mem _ z))
          have uZ2 : g₆.get? qd = some (dictOf qes qn) := ((t5.trans t6)).obj _ _ u2 (fun z => nomatch z) (fun z => w8 (List.mem_cons_of_mem _ z))
          have pZ : ProfAt h₆ x' v.fI v.fO v.fD v.fP := ⟨xd, xes, xn, x6, d6, p3, p4, p5, p6⟩
          change wpAny _ _ _ _ _ _
          try k_fold
          repeat' (first | ((with_reducible show wpAny _ _ (call (Value.ref 49) _) _ _ _); refine hold_call ?_) | ((with_reducible show wpAny _ _ (getMethod (Value.ref _) _ _) _ _ _); k_dflt (refine' own_method ?q9k1 ?q9k2 ?q9k3 ?q9k4 ?q9k5 ?q9k6 ?q9k7 ?q9k8 ?q9k9 ?q9k10 ?q9k11 ?_; (case q9k1 => k_asm); (case q9k2 => k_asm); (case q9k3 => exact InstAt.of_news (by k_asm) (by k_mem) (by k_mem)); (case q9k4 => k_is); (case q9k5 => k_is); (case q9k6 => k_is); (case q9k7 => k_is); (case q9k8 => k_is); (case q9k9 => k_is); (case q9k10 => assumption); (case q9k11 => exact rfl); k_whole)) | ((with_reducible show wpAny _ _ (call (Value.ref (NodeV.fM _)) _) _ _ _); k_dflt (refine' maker_at ?q9b ?q9Bw ?q9F ?q9N ?q9hA ?q9hf ?q9hke ?q9hm ?q9hlg ?q9V ?q9hh ?q9hr ?q9hu ?q9hlog ?q9hes ?q9hl ?ret ?exc; (case q9b => assumption); (case q9Bw => assumption); (case q9F => k_asm); (case q9N => k_asm); (case q9hA => exact rfl); (case q9hf => exact rfl); (case q9hke => exact rfl); (case q9hm => k_mem); (case q9hlg => assumption); (case q9V => assumption); (case q9hh => assumption); (case q9hr => k_room); (case q9hu => k_room); (case q9hlog => assumption); (case q9hes => assumption); (case q9hl => assumption); k_whole); (case' ret => (intro _ _ _ _ _ _ _ _; refine held_out ?_)); (case' exc => intro _ _ _ _ _ _)) | ((with_reducible show wpAny _ _ (callWith _ (Value.ref _) _ _ _) _ _ _); k_dflt (first   | (refine' callWith_F ?q9k1 ?_; (case q9k1 => exact fnat_ground (by k_asm) (by assumption)); k_whole)   | (refine' callWith_F0 ?q9k1 ?_; (case q9k1 => exact fnat_ground (by k_asm) (by assumption)); k_whole; try dsimp only [List.nil_append, List.cons_append]))) | ((with_reducible show wpAny _ _ (call (Value.ref 63) _) _ _ _); k_dflt (refine' raise_at ?q9b ?q9Bw ?q9F ?q9N ?q9hA ?q9hf ?q9hke ?q9hh ?q9hr ?q9hu ?q9hk ?ret ?exc; (case q9b => assumption); (case q9Bw => assumption); (case q9F => k_asm); (case q9N => k_asm); (case q9hA => exact rfl); (case q9hf => exact rfl); (case q9hke => exact rfl); (case q9hh => assumption); (case q9hr => k_room); (case q9hu => k_room); (case q9hk => assumption); k_whole); (case' ret => (intro _ _ _ _ _; (try k_sweep))); (case' exc => intro _ _ _ _ _ _ _)) | ((with_reducible show wpAny _ _ (eval (Expr.Name _ _) _) _ _ _); k_dflt (refine' nameG ?q9F ?q9c ?q9v ?_ ?q9a ?q9b ?q9d ?q9n; (case q9a => rfl); (case q9b => rfl); (case q9d => decide); (case q9n => decide); (case q9F => k_asm); (case q9c => assumption); (case q9v => assumption); k_whole)) | (k_unfold; (try dsimp only)) | (k_end; wrow_close) | walk1 | (dsimp only; walk1) | (leave1; try dsimp only) | fail "no step")
          refine held (show_at b Bw₆ F₆ NZ rfl rfl rfl (List.Mem.tail _ (List.Mem.tail _ (List.Mem.head _))) hlg' VZ (.inr ⟨e₅, x₅, n₅, rfl, sp.exc.hasCtx, hc₅.keeps sp.mv.ctx⟩) (by k_room) (by k_room) l₆ (by simp only [List.length_append, List.length_cons, List.length_nil]; omega) hl pZ hfn (fun hk9 h₉ tk₉ k₉ l₉ => ?_) fun hk9 h₉ tk₉ e₉ R₉ l₉ => ?_)
          · have l' : LogIs h₉ v.lg (es ++ ⟨0, v.n, .str (Str.ofString "")⟩ :: ⟨1, v.n, x⟩ :: (kidsTold nd (out nd len) (told nd len) j (len - (j + 1)) (j + 1) ++ [ent])) := by simpa only [List.append_assoc, List.cons_append, List.nil_append] using l₉
            obtain ⟨its9, n9, q9, _⟩ := id l'
            obtain ⟨gB, tB, FB, BwB, npB, _⟩ := back Bw₆ F₆ NZ rfl (X := [v.lg]) (fun z hz => by cases List.mem_singleton.mp hz; exact List.mem_map_of_mem (List.Mem.tail _ (List.Mem.tail _ (List.Mem.head _)))) k₉
            have hSS := k₉.slo
            have hXX : ∀ z ∈ [v.lg], ∃ o, h₆.get? z = some o ∧ ∀ vs, o.data ≠ .fields vs := fun z hz => by
              cases List.mem_singleton.mp hz
              exact ⟨_, lZ, fun vs q => by cases q⟩
            have e9 := sp.exc.keeps k₉ (fun z hz => ((pushX Bw₆ F₆ rfl rfl).frames.mem hz).2) hXX
            refine wpAny_execs_nil ⟨rfl, ?_, tb.keeps k₉ (fun z hz => ((pushX Bw₆ F₆ rfl rfl).frames.mem hz).2) hXX⟩
            refine thrown_k (O₁ := prot g outer) hop hg (((t1.trans t5).trans t6).trans tB) FB BwB rfl rfl e9 (fun _ q => q) ((hc₅.keeps sp.mv.ctx).keeps k₉.ctx) (Tame.list q9) fun hA q8 mv => ?_
            exact excO hk0 hk9 hk5 (fun z => hX (excOf_se.mpr z)) hA _ e₅ q8 (l'.moves mv (news_fs Bw₆ NZ rfl (p := (v.lg, _)) (List.Mem.tail _ (List.Mem.tail _ (List.Mem.head _)))))
          · have l' : LogIs h₉ v.lg (es ++ ⟨0, v.n, .str (Str.ofString "")⟩ :: ⟨1, v.n, x⟩ :: (kidsTold nd (out nd len) (told nd len) j (len - (j + 1)) (j + 1) ++ [ent])) := by simpa only [List.append_assoc, List.cons_append, List.nil_append] using l₉
            obtain ⟨its9, n9, q9, _⟩ := id l'
            refine thrown_call (Xn := [v.lg]) hop hg ((t1.trans t5).trans t6) F₆ NZ Bw₆ rfl rfl (fun z hz => by cases List.mem_singleton.mp hz; exact List.mem_map_of_mem (List.Mem.tail _ (List.Mem.tail _ (List.Mem.head _)))) R₉ (Tame.list q9) fun hA q9 mv => ?_
            exact excL hk0 hk9 hA _ e₉ q9 (l'.moves mv (news_fs Bw₆ NZ rfl (p := (v.lg, _)) (List.Mem.tail _ (List.Mem.tail _ (List.Mem.head _)))))
end

/-! F13 -/
theorem kc9 {cm : Str → Option Value} {n1 n2 n3 n4 n5 n6 n7 n8 n9 : Str} {c1 c2 c3 c4 c5 c6 c7 c8 c9 : Addr} {cells : List (Addr × Obj)} (x : CellsAre cm [(n1, c1), (n2, c2), (n3, c3), (n4, c4), (n5, c5), (n6, c6), (n7, c7), (n8, c8), (n9, c9)] cells) :
    ∃ o1 o2 o3 o4 o5 o6 o7 o8 o9, cells = [(c1, o1), (c2, o2), (c3, o3), (c4, o4), (c5, o5), (c6, o6), (c7, o7), (c8, o8), (c9, o9)] ∧ o1.data = .cell (cm n1) ∧ o2.data = .cell (cm n2) ∧ o3.data = .cell (cm n3) ∧ o4.data = .cell (cm n4) ∧ o5.data = .cell (cm n5) ∧ o6.data = .cell (cm n6) ∧ o7.data = .cell (cm n7) ∧ o8.data = .cell (cm n8) ∧ o9.data = .cell (cm n9) := by
  cases x with | cons h r => obtain ⟨o2, o3, o4, o5, o6, o7, o8, o9, rfl, h2, h3, h4, h5, h6, h7, h8, h9⟩ := PyProof.Rows.kc_eight r; exact ⟨_, o2, o3, o4, o5, o6, o7, o8, o9, rfl, h, h2, h3, h4, h5, h6, h7, h8, h9⟩
theorem kc10 {cm : Str → Option Value} {n1 n2 n3 n4 n5 n6 n7 n8 n9 n10 : Str} {c1 c2 c3 c4 c5 c6 c7 c8 c9 c10 : Addr} {cells : List (Addr × Obj)} (x : CellsAre cm [(n1, c1), (n2, c2), (n3, c3), (n4, c4), (n5, c5), (n6, c6), (n7, c7), (n8, c8), (n9, c9), (n10, c10)] cells) :
    ∃ o1 o2 o3 o4 o5 o6 o7 o8 o9 o10, cells = [(c1, o1), (c2, o2), (c3, o3), (c4, o4), (c5, o5), (c6, o6), (c7, o7), (c8, o8), (c9, o9), (c10, o10)] ∧ o1.data = .cell (cm n1) ∧ o2.data = .cell (cm n2) ∧ o3.data = .cell (cm n3) ∧ o4.data = .cell (cm n4) ∧ o5.data = .cell (cm n5) ∧ o6.data = .cell (cm n6) ∧ o7.data = .cell (cm n7) ∧ o8.data = .cell (cm n8) ∧ o9.data = .cell (cm n9) ∧ o10.data = .cell (cm n10) := by
  cases x with | cons h r => obtain ⟨o2, o3, o4, o5, o6, o7, o8, o9, o10, rfl, h2, h3, h4, h5, h6, h7, h8, h9, h10⟩ := kc9 r; exact ⟨_, o2, o3, o4, o5, o6, o7, o8, o9, o10, rfl, h, h2, h3, h4, h5, h6, h7, h8, h9, h10⟩
theorem kc11 {cm : Str → Option Value} {n1 n2 n3 n4 n5 n6 n7 n8 n9 n10 n11 : Str} {c1 c2 c3 c4 c5 c6 c7 c8 c9 c10 c11 : Addr} {cells : List (Addr × Obj)} (x : CellsAre cm [(n1, c1), (n2, c2), (n3, c3), (n4, c4), (n5, c5), (n6, c6), (n7, c7), (n8, c8), (n9, c9), (n10, c10), (n11, c11)] cells) :
    ∃ o1 o2 o3 o4 o5 o6 o7 o8 o9 o10 o11, cells = [(c1, o1), (c2, o2), (c3, o3), (c4, o4), (c5, o5), (c6, o6), (c7, o7), (c8, o8), (c9, o9), (c10, o10), (c11, o11)] ∧ o1.data = .cell (cm n1) ∧ o2.data = .cell (cm n2) ∧ o3.data = .cell (cm n3) ∧ o4.data = .cell (cm n4) ∧ o5.data = .cell (cm n5) ∧ o6.data = .cell (cm n6) ∧ o7.data = .cell (cm n7) ∧ o8.data = .cell (cm n8) ∧ o9.data = .cell (cm n9) ∧ o10.data = .cell (cm n10) ∧ o11.data = .cell (cm n11) := by
  cases x with | cons h r => obtain ⟨o2, o3, o4, o5, o6, o7, o8, o9, o10, o11, rfl, h2, h3, h4, h5, h6, h7, h8, h9, h10, h11⟩ := kc10 r; exact ⟨_, o2, o3, o4, o5, o6, o7, o8, o9, o10, o11, rfl, h, h2, h3, h4, h5, h6, h7, h8, h9, h10, h11⟩
theorem kc12 {cm : Str → Option Value} {n1 n2 n3 n4 n5 n6 n7 n8 n9 n10 n11 n12 : Str} {c1 c2 c3 c4 c5 c6 c7 c8 c9 c10 c11 c12 : Addr} {cells : List (Addr × Obj)} (x : CellsAre cm [(n1, c1), (n2, c2), (n3, c3), (n4, c4), (n5, c5), (n6, c6), (n7, c7), (n8, c8), (n9, c9), (n10, c10), (n11, c11), (n12, c12)] cells) :
    ∃ o1 o2 o3 o4 o5 o6 o7 o8 o9 o10 o11 o12, cells = [(c1, o1), (c2, o2), (c3, o3), (c4, o4), (c5, o5), (c6, o6), (c7, o7), (c8, o8), (c9, o9), (c10, o10), (c11, o11), (c12, o12)] ∧ o1.data = .cell (cm n1) ∧ o2.data = .cell (cm n2) ∧ o3.data = .cell (cm n3) ∧ o4.data = .cell (cm n4) ∧ o5.data = .cell (cm n5) ∧ o6.data = .cell (cm n6) ∧ o7.data = .cell (cm n7) ∧ o8.data = .cell (cm n8) ∧ o9.data = .cell (cm n9) ∧ o10.data = .cell (cm n10) ∧ o11.data = .cell (cm n11) ∧ o12.data = .cell (cm n12) := by
  cases x with | cons h r => obtain ⟨o2, o3, o4, o5, o6, o7, o8, o9, o10, o11, o12, rfl, h2, h3, h4, h5, h6, h7, h8, h9, h10, h11, h12⟩ := kc11 r; exact ⟨_, o2, o3, o4, o5, o6, o7, o8, o9, o10, o11, o12, rfl, h, h2, h3, h4, h5, h6, h7, h8, h9, h10, h11, h12⟩

section
variable {M : Model} {A : Around} {E : Value → Shared → Prop} {s : Shared} {h₀ : Heap} {L a c P : Addr} {m mg mb : Str → Option Value} {cn : Str} {cs : Scope} {ccd : Value} {cl : List (Str × Addr)} {news : List (Addr × Obj)}
  {p : Program} {loose : List Str} {mean : ExcName → Option Value} {name qual : Str} {params : Arguments} {body : List Stmt} {scope : Scope} {ps : Array Value} {pos : Pos} {firstLine : Nat} {clos : List (Str × Addr)}
/-- a nested def whose code is in the table, and the table is of the ground -/
theorem nestHit_G {Q : Value → Shared → Prop} {c' : Addr} (F : Fr h₀ L s.heap m) (N : News h₀ L s.heap news) (T : Top p loose mean mg mb h₀) (C : CodeHd h₀ c P) (hcd : ccd = .ref c) (hP : h₀.get? P = some (tabObj ps)) (ht : TriplesOk ps.toList) (hf : codeAmong pos ps.toList = some (.ref c'))
    (hcl : closureFor scope (envX cn cs L a ccd cl) = pure clos)
    (h : ∀ f ctv doc h' tk, Fr h₀ L h' m → News h₀ L h' ((f, fnMade name qual params body scope clos doc ((mg "__name__").getD .none) c' ctv) :: news) → (∀ q ∈ news, q.1 < f) → Q (.ref f) { s with heap := h', toks := tk }) :
    wpAny M A (makeFunction name qual params (.stmts body) scope (envX cn cs L a ccd cl) [] [] [] pos firstLine) Q E s := by
  have hm := F.keep _ _ hP
  have hgs := T.g.keeps F.keep
  obtain ⟨bm, ob, b1, b2, b3, b4, b5, b6⟩ := T.bmain
  have hbP : bm ≠ P := fun q => by
    have e := F.keep _ _ b3
    rw [q, hm] at e; cases e; cases b4
  have hbG : bm ≠ mainGlobals := fun q => by
    obtain ⟨o, es, ep, e, hd, _⟩ := T.g
    rw [q, e] at b3; cases b3; rw [hd] at b6; cases b6
  refine makeFunction_hit (mg := mg) hcl rfl hgs hcd (C.keeps F.keep) hm ht hf ⟨bm, ob, b1, b2, hbG, hbP, F.keep _ _ b3, b4, b5, b6⟩ fun ctv doc h' tk hk hsz => ?_
  have hLs : L < h'.objs.size := Nat.lt_of_lt_of_le F.ns.lt hsz
  have fresh : ∀ b, L < b → h₀.get? b = none := fun b hb => Heap.get?_none_of_le (Nat.le_trans F.above (Nat.le_of_lt hb))
  refine h h'.objs.size ctv doc _ tk ⟨(F.ns.keeps hk).push _, fun b o e => Heap.get?_push_of_some _ (hk b o (F.keep b o e)), F.above⟩ (fun q hq => ?_) (fun q hq => Nat.lt_of_lt_of_le (Heap.lt_size (N q hq).1) hsz)
  rcases List.mem_cons.mp hq with rfl | hq
  · exact ⟨Heap.get?_push_size _ rfl, Nat.ne_of_gt hLs, fresh _ hLs⟩
  · exact ⟨Heap.get?_push_of_some _ (hk _ _ (N q hq).1), (N q hq).2⟩
end
section
variable {prog : Program} {w : World} {A : Around} {E : Value → Shared → Prop} {s : Shared} {g : Heap} {L : Addr} {m : Str → Option Value} {news : List (Addr × Obj)} {env : Env}
theorem nd_unpack {elts : List Expr} {k} {pos : Pos} {t : Addr} {d : Nd} {Q : Unit → Shared → Prop} (F : Fr g L s.heap m) (N : News g L s.heap news) (D : NdIs g t d) (hh : A.handled = none) (hn : (assignEach elts env).length = 6) (hstar : (assignEach elts env).findIdx? (·.1) = none)
    (h : ∀ t1 t2 t3 x t5 t6 h', d.place.Is x → Fr g L h' m → News g L h' news → wpAny (model prog w) A (assignInOrder ((assignEach elts env).map (·.2)) [.int d.parent t1, .int d.own t2, .int d.entry t3, x, .int d.late t5, .int d.early t6]) Q E { s with heap := h' }) :
    wpAny (model prog w) A (assign (.Tuple elts k pos) env (.ref t)) Q E s := by
  obtain ⟨t1, t2, t3, x, t5, t6, hl, hx⟩ := D
  have hl' : IsTup s.heap t _ := let ⟨o, ho, r⟩ := hl; ⟨o, F.keep _ _ ho, r⟩
  exact unpackN_ F N hl' hh hn hstar fun h' F' N' => h t1 t2 t3 x t5 t6 h' hx F' N'
end
/-- the log of an earlier heap, where its list is untouched -/
theorem log_at {h₀ h g : Heap} {lg L : Addr} {X : List Addr} {m : Str → Option Value} {its : Array Value} {n : Nat} {es : List Ent} (hit : Ents h₀ its.toList es) (hg : g = hideAll h₀ X) (hX : ∀ z ∈ X, ∀ o, h₀.get? z = some o → o.cls ≠ .type "tuple") (F : Fr g L h m) (hl : h.get? lg = some (listOf its n)) : LogIs h lg es :=
  ⟨its, n, hl, hit.imp fun v e => EntIs.seq fun b o _ _ q _ hc => F.keep b o (hg ▸ hideAll_get _ q fun z => hX b z o q hc)⟩
/-- the log's entries as part of a ledger -/
theorem log_split {g h : Heap} {L lg : Addr} {m : Str → Option Value} {ii : Array Value} {nn : Nat} (F : Fr g L h m) (hl : h.get? lg = some (listOf ii nn)) : ∀ {its : List Value} {es : List Ent}, Ents h its es →
    ∃ tups : List (Addr × Obj), (∀ p ∈ tups, (h.get? p.1 = some p.2 ∧ p.1 ≠ L ∧ g.get? p.1 = none) ∧ p.1 ≠ lg) ∧ ∀ h', (∀ b o, g.get? b = some o → h'.get? b = some o) → (∀ p ∈ tups, h'.get? p.1 = some p.2) → Ents h' its es
  | [], [], _ => ⟨[], (fun p hp => nomatch hp), fun _ _ _ => trivial⟩
  | v :: vs, e :: es, r => by
    obtain ⟨tups, a, c⟩ := log_split F hl r.2
    obtain ⟨t, o, nn', t1, t2, x, rfl, ho, hc, hd, hx⟩ := r.1
    have hlg : t ≠ lg := fun q => by rw [q, hl] at ho; cases ho; exact absurd (Value.type.inj hc) (by decide)
    have hL : t ≠ L := fun q => by
      obtain ⟨oL, _, _, e1, e2, _⟩ := F.ns
      rw [q, e1] at ho; cases ho; rw [e2] at hd; cases hd
    cases q : g.get? t with
    | none =>
      refine ⟨(t, o) :: tups, fun p hp => ?_, fun h' k1 k2 => ⟨⟨t, o, nn', t1, t2, x, rfl, k2 _ (.head _), hc, hd, hx⟩, c h' k1 fun p hp => k2 p (.tail _ hp)⟩⟩
      rcases List.mem_cons.mp hp with rfl | hp
      · exact ⟨⟨ho, hL, q⟩, hlg⟩
      · exact a p hp
    | some o' =>
      have := F.keep _ _ q
      rw [ho] at this; cases this
      exact ⟨tups, a, fun h' k1 k2 => ⟨⟨t, o, nn', t1, t2, x, rfl, k1 _ _ q, hc, hd, hx⟩, c h' k1 k2⟩⟩
  | [], _ :: _, r => r.elim
  | _ :: _, [], r => r.elim
def cellsOf (L : Addr) : List (Str × Addr) := [(Str.ofString "wide", L + 1 + 1 + 1 + 1 + 1 + 1 + 1 + 1 + 1 + 1 + 1 + 1), (Str.ofString "printed", L + 1 + 1 + 1 + 1 + 1 + 1 + 1 + 1 + 1 + 1 + 1), (Str.ofString "own", L + 1 + 1 + 1 + 1 + 1 + 1 + 1 + 1 + 1 + 1), (Str.ofString "near", L + 1 + 1 + 1 + 1 + 1 + 1 + 1 + 1 + 1), (Str.ofString "late", L + 1 + 1 + 1 + 1 + 1 + 1 + 1 + 1), (Str.ofString "inside_of", L + 1 + 1 + 1 + 1 + 1 + 1 + 1), (Str.ofString "inside", L + 1 + 1 + 1 + 1 + 1 + 1), (Str.ofString "early", L + 1 + 1 + 1 + 1 + 1), (Str.ofString "dumped", L + 1 + 1 + 1 + 1), (Str.ofString "log", L + 1 + 1 + 1), (Str.ofString "nodes", L + 1 + 1), (Str.ofString "number", L + 1)]
def cmOf (L : Addr) (y : Str) : Addr := ((cellsOf L).lookup y).getD 0
theorem shown_is {d : Nd} {j : Nat} {x : Value} (h : d.Ok) (hx : d.place.Is x) : ShownIs (j : Int) ((j : Int) - 3) x (shownOf d j) := by
  unfold shownOf
  rcases h.place with q | ⟨y, q⟩
  · rw [q] at hx ⊢
    exact .inr ⟨hx, rfl⟩
  · rw [q] at hx ⊢
    obtain ⟨t, hx⟩ := hx
    exact .inl ⟨y, t, hx, rfl⟩
section
variable {nd : Nat → Nd} {len j : Nat}
theorem told_early (h : j < len) (he : (nd j).early ≠ 0) : out nd len j = (nd j).early ∧ told nd len j = [⟨0, j, .str (Str.ofString "")⟩] := by
  rw [out_step h, told_step h]
  unfold stepOut stepTold
  rw [if_pos he, if_pos he]
  exact ⟨rfl, rfl⟩
theorem told_late (h : j < len) (he : (nd j).early = 0) (hl : (nd j).late ≠ 0) : out nd len j = (nd j).late ∧
    told nd len j = ⟨0, j, .str (Str.ofString "")⟩ :: ⟨1, j, .str (textOf j)⟩ :: (kidsTold nd (out nd len) (told nd len) j (len - (j + 1)) (j + 1) ++ [shownOf (nd j) j]) := by
  have o : stepOut nd len (out nd len) j = (nd j).late := by unfold stepOut; rw [if_neg (fun q => q he), if_pos hl]
  rw [out_step h, told_step h]
  unfold stepTold
  rw [o, if_neg (fun q => q he), if_pos hl]
  exact ⟨rfl, rfl⟩
theorem told_kid (h : j < len) (he : (nd j).early = 0) (hl : (nd j).late = 0) (h0 : kidsOut nd (out nd len) j (nd j).own (len - (j + 1)) (j + 1) ≠ 0) (h1 : kidsOut nd (out nd len) j (nd j).own (len - (j + 1)) (j + 1) ≠ 1) :
    out nd len j = kidsOut nd (out nd len) j (nd j).own (len - (j + 1)) (j + 1) ∧
    told nd len j = ⟨0, j, .str (Str.ofString "")⟩ :: ⟨1, j, .str (textOf j)⟩ :: (kidsTold nd (out nd len) (told nd len) j (len - (j + 1)) (j + 1) ++ [shownOf (nd j) j]) := by
  have o : stepOut nd len (out nd len) j = kidsOut nd (out nd len) j (nd j).own (len - (j + 1)) (j + 1) := by unfold stepOut; rw [if_neg (fun q => q he), if_neg (fun q => q hl), if_neg h1]
  rw [out_step h, told_step h]
  unfold stepTold
  rw [o, if_neg (fun q => q he), if_pos h0]
  exact ⟨rfl, rfl⟩
theorem told_ok (h : j < len) (he : (nd j).early = 0) (hl : (nd j).late = 0) (h0 : kidsOut nd (out nd len) j (nd j).own (len - (j + 1)) (j + 1) = 0 ∨ kidsOut nd (out nd len) j (nd j).own (len - (j + 1)) (j + 1) = 1) :
    out nd len j = 0 ∧
    told nd len j = ⟨0, j, .str (Str.ofString "")⟩ :: ⟨1, j, .str (textOf j)⟩ :: (kidsTold nd (out nd len) (told nd len) j (len - (j + 1)) (j + 1) ++ [shownOf (nd j) j, ⟨4, j, .none⟩]) := by
  have o : stepOut nd len (out nd len) j = 0 := by
    unfold stepOut
    rw [if_neg (fun q => q he), if_neg (fun q => q hl)]
    split
    · rfl
    · rename_i q
      exact h0.elim id fun z => absurd z q
  rw [out_step h, told_step h]
  unfold stepTold
  rw [o, if_neg (fun q => q he), if_neg (fun q => q rfl)]
  exact ⟨rfl, rfl⟩
theorem kids_fit (h : j < len) (he : (nd j).early = 0) {n : Nat} (hes : n + (told nd len j).length ≤ 100000) : n + 3 + (kidsTold nd (out nd len) (told nd len) j (len - (j + 1)) (j + 1)).length ≤ 100000 := by
  rw [told_step h] at hes
  unfold stepTold at hes
  rw [if_neg (fun q => q he)] at hes
  simp only [List.length_cons, List.length_append] at hes
  omega
theorem told_pos (h : j < len) : 1 ≤ (told nd len j).length := by
  rw [told_step h]
  unfold stepTold
  simp only [List.length_cons]
  omega
end

/-! F14 -/

local macro_rules | `(tactic| k_ne) => `(tactic| (refine neN ?_; (try dsimp only); (fail_if_success (with_reducible refine ne_probe ?_)); first | with_reducible assumption | exact ne_g | exact Ne.symm ne_g | omega))
section
local macro_rules | `(tactic| k_lt $h) => `(tactic| (replace $h := lt_head $h))
local macro_rules | `(tactic| walk_at "exec FunctionDef") => `(tactic| (k_here; kn_here; k_dflt (refine' nestDef_K ?d0 ?k0 ?a0 ?_; (case d0 => exact rfl); (case k0 => exact rfl); (case a0 => exact rfl)); (k_dflt (refine' nestHit_G ?F ?N ?T ?C ?cd ?P ?t ?n ?cl ?_; (case F => k_asm); (case N => k_asm); (case T => k_asm); (case cd => exact rfl); (case C => kn_code); (case P => assumption); (case t => kn_triples); (case n => kn_hit); (case cl => exact rfl); k_whole); intro f' ct' dc' h' tk' F' N' l1; (try dsimp only at N'); (try k_lt l1))))
section
variable {prog : Program} {w : World} {p : Program} {loose : List Str} {mean : ExcName → Option Value} {mg mb : Str → Option Value} {B : Heap} {nd : Nat → Nd} {len j : Nat}
theorem do_spec (b : Base w p loose mean mg mb B) (hok : ∀ i, i < len → (nd i).Ok) (hlen : len ≤ 100) (hjl : j < len) (ih : ∀ i, j < i → i < len → DoOk prog w B nd len i) : DoOk prog w B nd len j := by
  intro A outer s Q E lg nl es tj hst hB hff hlg hA hroom hun hN hnl hT hlog hes ret exc
  have ff : PySem.Challenge.rw_kl0226_01 = PySem.Challenge.rw_kl0226_01 ∧ hd.heap_39 = hd.heap_39 := by
    k_fill
    exact ⟨rfl, rfl⟩
  clear ff
  obtain ⟨hd, dp, fr, gd, un⟩ := A
  cases hst
  dsimp only at hA hroom hun
  subst hA
  have X₀ := b.X.keeps hB
  obtain ⟨its, nn, hlo, hit⟩ := hlog
  have hop : Open B outer s.heap [(lg, listOf its nn)] := fun p hp => by cases List.mem_singleton.mp hp; exact ⟨hlo, hlg⟩
  refine' enterC_k (B := B) (binds := [(Str.ofString "number", .int j tj), (Str.ofString "nodes", .ref nl), (Str.ofString "log", .ref lg)]) [(lg, listOf its nn)] rfl hB hff hop b.T.nolimit ?k1 ?k2 ?k3 ?k4 ?k5 ?k6 ?k7 ?_ ?k8 ?k9 ?k10
  case k1 => exact X₀ _ _ (by k_is)
  case k2 => exact rfl
  case k3 => exact codeRec_of X₀ (by k_is)
  case k4 => exact Nat.lt_of_le_of_lt (Nat.le_add_right _ _) hroom
  case k5 => exact BindsTo.of_eq rfl
  case k6 => exact rfl
  case k7 => decide +kernel
  case k8 => exact rfl
  case k9 => exact rfl
  case k10 => exact rfl
  intro g L h₁ tk₁ cells hg hL F N Y Bw
  have tame : ∀ h' its' n', h'.get? lg = some (listOf its' n') → Tame s.heap h' [(lg, listOf its nn)] := fun h' its' n' q => Tame.list q
  have X' := b.X.keeps Bw.stays
  have T' := b.T.keeps Bw.stays
  have C' := b.C.keeps Bw.stays
  have hsz : its.size ≤ sizeLine := its_fit hit (by omega)
  have hX1 : ∀ z ∈ [(lg, listOf its nn)].map (·.1), ∀ o, s.heap.get? z = some o → o.cls ≠ .type "tuple" := fun z hz o q => by
    cases List.mem_singleton.mp hz
    rw [hlo] at q; cases q
    exact fun z => absurd (Value.type.inj z) (by decide)
  have hnlX : nl ∉ [(lg, listOf its nn)].map (·.1) := by simpa using hnl
  have hN' : NodesIs g nl nd len := hg ▸ hN.ground hnlX hX1
  have hT₀ : FullTab g := hg ▸ hT.ground (fun z hz o q vs e => by
    cases List.mem_singleton.mp hz
    rw [hlo] at q; cases q
    cases e)
  obtain ⟨c1, c2, c3, c4, c5, TA⟩ := id hT₀
  have tabP := TA.at_
  have llg : @LT.lt Nat _ lg L := hL ▸ Heap.lt_size hlo
  have ne3 : @Ne Nat (L + 1 + 1 + 1) lg := by omega
  have ne1 : @Ne Nat (L + 1) lg := by omega
  obtain ⟨o1', o2', o3', o4', o5', o6', o7', o8', o9', o10', o11', o12', hE', d1', d2', d3', d4', d5', d6', d7', d8', d9', d10', d11', d12'⟩ := kc12 Y
  subst hE'
  clear Y
  simp only [List.cons_append, List.nil_append] at N
  have okj := hok j hjl
  have hes1 : es.length + 1 ≤ 100000 := by have := told_pos (nd := nd) hjl; omega
  have d10 : o10'.data = .cell (some (.ref lg)) := d10'
  have d11 : o11'.data = .cell (some (.ref nl)) := d11'
  have d12 : o12'.data = .cell (some (.int j tj)) := d12'
  change wpAny _ _ _ _ _ _
  k_fold
  repeat' (first | ((with_reducible show wpAny _ _ (call (Value.builtin "list.append") _) _ _ _); refine hold_call ?_) | ((with_reducible show wpAny _ _ (call (Value.ref 35) _) _ _ _); refine hold_call ?_) | ((with_reducible show wpAny _ _ (call (Value.ref 42) _) _ _ _); refine hold_call ?_) | ((with_reducible show wpAny _ _ (assign (Expr.Tuple _ _ _) _ (Value.ref _)) _ _ _); k_dflt (refine' nd_unpack ?q9F ?q9N ?q9D ?q9k1 ?q9k2 ?q9k3 ?_; (case q9F => k_asm); (case q9N => k_asm); (case q9D => assumption); (case q9k1 => exact rfl); (case q9k2 => exact rfl); (case q9k3 => exact rfl)); intro _ _ _ _ _ _ _ _ _ _) | ((with_reducible show wpAny _ _ (subscriptTail _ _ (Value.ref _) (Value.int 0 _)) _ _ _); k_dflt (refine' nd_item ?q9F ?q9N ?_ ?q9hs; (case q9F => k_asm); (case q9N => assumption); (case q9hs => with_unfolding_all rfl); k_whole); intro _) | ((with_reducible show wpAny _ _ (subscriptTail _ _ (Value.ref _) (Value.int _ _)) _ _ _); k_dflt (refine' nodes_item ?q9F ?q9N ?q9k0 ?q9k1 ?q9l ?_ ?q9hs; (case q9F => k_asm); (case q9N => assumption); (case q9k0 => first | exact Int.natCast_nonneg _ | with_reducible assumption | omega); (case q9k1 => first | exact Int.ofNat_lt.mpr (by with_reducible assumption) | with_reducible assumption | omega); (case q9l => assumption); (case q9hs => with_unfolding_all rfl); k_whole); intro _ _) | (k_unfold; (try dsimp only)) | (k_end; wrow_close) | walk1 | (dsimp only; walk1) | (leave1; try dsimp only) | fail "no step")
  · rename_i hF F₂ N₂ hent ts kk hst
    have TC : TabAre hF c1 c2 c3 c4 c5 := ⟨F₂.keep _ _ TA.at_, TA.c1.keeps F₂.keep, TA.c2.keeps F₂.keep, TA.c3.keeps F₂.keep, TA.c4.keeps F₂.keep, TA.c5.keeps F₂.keep⟩
    have V : NodeAt w hF ⟨(j : Int), (nd j).own, (nd j).late, (nd j).early, nl, lg, _, _, _, _, _, _, _⟩ (cmOf L) tj _ _ _ :=
      ⟨⟨_, (N₂ _ (mem_i 19 rfl)).1, d10⟩, ⟨_, (N₂ _ (mem_i 20 rfl)).1, d11⟩, ⟨_, (N₂ _ (mem_i 21 rfl)).1, d12⟩, ⟨_, (N₂ _ (mem_i 12 rfl)).1, by assumption⟩, ⟨_, (N₂ _ (mem_i 14 rfl)).1, by assumption⟩, ⟨_, (N₂ _ (mem_i 17 rfl)).1, by assumption⟩, ⟨_, (N₂ _ (mem_i 10 rfl)).1, by assumption⟩, ⟨_, (N₂ _ (mem_i 13 rfl)).1, by assumption⟩, ⟨_, (N₂ _ (mem_i 16 rfl)).1, by assumption⟩, ⟨_, (N₂ _ (mem_i 15 rfl)).1, by assumption⟩, ⟨_, (N₂ _ (mem_i 18 rfl)).1, by assumption⟩, ⟨_, (N₂ _ (mem_i 11 rfl)).1, by assumption⟩,
        ⟨_, _, _, _, _, _, _, _, _, _, _, (N₂ _ (mem_i 6 rfl)).1, rfl, TC.c1, ⟨_, _, _, _, by k_is, rfl, rfl, rfl⟩, List.forall_mem_cons.mpr ⟨rfl, List.forall_mem_cons.mpr ⟨rfl, List.forall_mem_cons.mpr ⟨rfl, List.forall_mem_cons.mpr ⟨rfl, List.forall_mem_nil _⟩⟩⟩⟩⟩,
        ⟨_, _, _, _, _, _, _, _, _, _, _, (N₂ _ (mem_i 5 rfl)).1, rfl, TC.c2, ⟨_, _, _, _, by k_is, rfl, rfl, rfl⟩, List.forall_mem_cons.mpr ⟨rfl, List.forall_mem_cons.mpr ⟨rfl, List.forall_mem_cons.mpr ⟨rfl, List.forall_mem_nil _⟩⟩⟩⟩,
        ⟨_, _, _, _, _, _, _, _, _, _, _, (N₂ _ (mem_i 4 rfl)).1, rfl, TC.c3, ⟨_, _, _, _, by k_is, rfl, rfl, rfl⟩, List.forall_mem_cons.mpr ⟨rfl, List.forall_mem_cons.mpr ⟨rfl, List.forall_mem_cons.mpr ⟨rfl, List.forall_mem_nil _⟩⟩⟩⟩,
        ⟨_, _, _, _, _, _, _, _, _, _, _, (N₂ _ (mem_i 3 rfl)).1, rfl, TC.c4, ⟨_, _, _, _, by k_is, rfl, rfl, rfl⟩, List.forall_mem_cons.mpr ⟨rfl, List.forall_mem_cons.mpr ⟨rfl, List.forall_mem_cons.mpr ⟨rfl, List.forall_mem_nil _⟩⟩⟩⟩,
        ⟨_, _, _, _, _, _, _, _, _, _, _, (N₂ _ (List.Mem.tail _ (List.Mem.tail _ (List.Mem.head _)))).1, rfl, TC.c5, ⟨_, _, _, _, by k_is, rfl, rfl, rfl⟩, List.forall_mem_cons.mpr ⟨rfl, List.forall_mem_cons.mpr ⟨rfl, List.forall_mem_cons.mpr ⟨rfl, List.forall_mem_cons.mpr ⟨rfl, List.forall_mem_cons.mpr ⟨rfl, List.forall_mem_cons.mpr ⟨rfl, List.forall_mem_cons.mpr ⟨rfl, List.forall_mem_nil _⟩⟩⟩⟩⟩⟩⟩⟩⟩
    refine held ?_
    refine runctx_spec b V rfl (fun b o q => F₂.keep _ _ (Bw.stays b o q)) (pushX Bw F₂ rfl rfl).frames ⟨hlg.1, news_fs Bw N₂ rfl (mem_i 22 rfl)⟩ rfl ?_ ?_ (hN'.fr F₂) hnl ⟨c1, c2, c3, c4, c5, TC⟩ hlen rfl hjl rfl hok ih (log_at hit hg hX1 F₂ (N₂ _ (mem_i 22 rfl)).1) (x := .str (textOf j)) ⟨_, rfl⟩ hes1 (fun he => kids_fit hjl he hes) okj.late okj.early
      (k := (j : Int) - 3) rfl rfl ⟨_, _, _, (N₂ _ (List.Mem.head _)).1, (N₂ _ (List.Mem.tail _ (List.Mem.head _))).1, rfl, rfl, rfl, rfl, ?_, ?_⟩ (shown_is okj (by assumption)) ?_ ?_ ?_ ?_
    · k_room
    · k_room
    · intro z
      rcases List.mem_cons.mp z with z | z
      · have q1 := (N₂ _ (List.Mem.head _)).1
        rw [show _ = lg from z, (N₂ _ (mem_i 22 rfl)).1] at q1
        cases congrArg Obj.data (Option.some.inj q1)
      · exact news_fs Bw N₂ rfl (List.Mem.head _) z
    · intro z
      rcases List.mem_cons.mp z with z | z
      · have q1 := (N₂ _ (List.Mem.tail _ (List.Mem.head _))).1
        rw [show _ = lg from z, (N₂ _ (mem_i 22 rfl)).1] at q1
        cases congrArg Obj.data (Option.some.inj q1)
      · exact news_fs Bw N₂ rfl (List.Mem.tail _ (List.Mem.head _)) z
    · intro he hl ho h' tk' k' l'
      obtain ⟨to, tt⟩ := told_ok hjl he hl ho
      obtain ⟨g₂, t1, F₃, Bw₃, np₃, ld₃⟩ := back Bw F₂ N₂ rfl (X := [lg]) (fun z hz => by cases List.mem_singleton.mp hz; exact mem_i 22 rfl) k'
      obtain ⟨its2, n2, q2, e2⟩ := id l'
      obtain ⟨tups, ht1, ht2⟩ := log_split F₃ q2 e2
      have hsz2 : its2.size ≤ sizeLine := its_fit e2 (by have := congrArg List.length tt; simp only [List.length_cons, List.length_append, List.length_nil] at this ⊢; omega)
      have N₃ : News g₂ L h' ((L + 1 + 1 + 1, o10') :: (L + 1, o12') :: (lg, W.listOf its2 n2) :: tups) := fun z hz => by
        rcases List.mem_cons.mp hz with rfl | hz
        · exact ⟨ld₃ _ (mem_i 19 rfl) (fun q => ne3 (List.mem_singleton.mp q)), (N₂ _ (mem_i 19 rfl)).2.1, np₃ _ (N₂ _ (mem_i 19 rfl)).2.2⟩
        · rcases List.mem_cons.mp hz with rfl | hz
          · exact ⟨ld₃ _ (mem_i 21 rfl) (fun q => ne1 (List.mem_singleton.mp q)), (N₂ _ (mem_i 21 rfl)).2.1, np₃ _ (N₂ _ (mem_i 21 rfl)).2.2⟩
          · rcases List.mem_cons.mp hz with rfl | hz
            · exact ⟨q2, (N₂ _ (mem_i 22 rfl)).2.1, np₃ _ (N₂ _ (mem_i 22 rfl)).2.2⟩
            · exact (ht1 _ hz).1
      have X₃ := b.X.keeps Bw₃.stays
      have T₃ := b.T.keeps Bw₃.stays
      clear F₂ N₂ V TC X' T'
      change wpAny _ _ _ _ _ _
      try k_fold
      repeat' (first | ((with_reducible show wpAny _ _ (call (Value.builtin "list.append") _) _ _ _); refine hold_call ?_) | ((with_reducible show wpAny _ _ (call (Value.ref 35) _) _ _ _); refine hold_call ?_) | ((with_reducible show wpAny _ _ (call (Value.ref 42) _) _ _ _); refine hold_call ?_) | ((with_reducible show wpAny _ _ (assign (Expr.Tuple _ _ _) _ (Value.ref _)) _ _ _); k_dflt (refine' nd_unpack ?q9F ?q9N ?q9D ?q9k1 ?q9k2 ?q9k3 ?_; (case q9F => k_asm); (case q9N => k_asm); (case q9D => assumption); (case q9k1 => exact rfl); (case q9k2 => exact rfl); (case q9k3 => exact rfl)); intro _ _ _ _ _ _ _ _ _ _) | ((with_reducible show wpAny _ _ (subscriptTail _ _ (Value.ref _) (Value.int 0 _)) _ _ _); k_dflt (refine' nd_item ?q9F ?q9N ?_ ?q9hs; (case q9F => k_asm); (case q9N => assumption); (case q9hs => with_unfolding_all rfl); k_whole); intro _) | ((with_reducible show wpAny _ _ (subscriptTail _ _ (Value.ref _) (Value.int _ _)) _ _ _); k_dflt (refine' nodes_item ?q9F ?q9N ?q9k0 ?q9k1 ?q9l ?_ ?q9hs; (case q9F => k_asm); (case q9N => assumption); (case q9k0 => first | exact Int.natCast_nonneg _ | with_reducible assumption | omega); (case q9k1 => first | exact Int.ofNat_lt.mpr (by with_reducible assumption) | with_reducible assumption | omega); (case q9l => assumption); (case q9hs => with_unfolding_all rfl); k_whole); intro _ _) | (k_unfold; (try dsimp only)) | (k_end; wrow_close) | walk1 | (dsimp only; walk1) | (leave1; try dsimp only) | fail "no step")
      rename_i h₄ F₄ N₄ hk4 nm4
      have hD := (N₄ _ (List.Mem.head _)).1
      have hlg4 := (N₄ _ (mem_i 3 rfl)).1
      refine held (append_K F₄ N₄ (.tail (fun z => ?_) (.tail ne3 (.tail ne1 (.head fun p hp => (ht1 p hp).2)))) (fun h₅ F₅ N₅ => ?_) hsz2)
      · have z' := (congrArg h₄.get? z).symm.trans hD
        dsimp only at hlg4
        rw [hlg4] at z'
        exact absurd (Value.type.inj (congrArg Obj.cls (Option.some.inj z'))) (by decide)
      · refine wpAny_execs_nil ?_
        have eqT : es ++ told nd len j = (es ++ ⟨0, j, .str (Str.ofString "")⟩ :: ⟨1, j, .str (textOf j)⟩ :: (kidsTold nd (out nd len) (told nd len) j (len - (j + 1)) (j + 1) ++ [shownOf (nd j) j])) ++ [⟨4, j, .none⟩] := by
          rw [tt]
          simp only [List.append_assoc, List.cons_append, List.nil_append]
        refine ret to _ _ (exitR_k hop hg t1 F₅ (tame _ _ _ (N₅ _ (mem_i 3 rfl)).1)) ?_
        rw [eqT]
        refine ⟨_, _, (N₅ _ (mem_i 3 rfl)).1, ?_⟩
        rw [Array.toList_push]
        exact Ents.snoc (e := ⟨4, j, .none⟩) ⟨_, _, _, _, _, _, rfl, (N₅ _ (List.Mem.head _)).1, rfl, rfl, rfl⟩ (ht2 h₅ F₅.keep fun p hp => (N₅ p (List.Mem.tail _ (List.Mem.tail _ (List.Mem.tail _ (List.Mem.tail _ hp))))).1)
    · intro he h' tk' e' R' l'
      obtain ⟨to, tt⟩ := told_early hjl he
      obtain ⟨its2, n2, q2, _⟩ := id l'
      refine thrown_call (Xn := [lg]) hop hg (.refl _) F₂ N₂ Bw rfl rfl (fun z hz => by cases List.mem_singleton.mp hz; exact mem_i 22 rfl) R' (tame _ _ _ q2) fun h₃ q mv => ?_
      exact exc (fun z => he (to.symm.trans z)) h₃ _ e' (to ▸ q) (tt ▸ l'.moves mv (news_fs Bw N₂ rfl (mem_i 22 rfl)))
    · intro he hl h' tk' e' R' l'
      obtain ⟨to, tt⟩ := told_late hjl he hl
      obtain ⟨its2, n2, q2, _⟩ := id l'
      refine thrown_call (Xn := [lg]) hop hg (.refl _) F₂ N₂ Bw rfl rfl (fun z hz => by cases List.mem_singleton.mp hz; exact mem_i 22 rfl) R' (tame _ _ _ q2) fun h₃ q mv => ?_
      exact exc (fun z => hl (to.symm.trans z)) h₃ _ e' (to ▸ q) (tt ▸ l'.moves mv (news_fs Bw N₂ rfl (mem_i 22 rfl)))
    · intro he hl h0 h1 h' tk' e' R' l'
      obtain ⟨to, tt⟩ := told_kid hjl he hl h0 h1
      obtain ⟨its2, n2, q2, _⟩ := id l'
      refine thrown_call (Xn := [lg]) hop hg (.refl _) F₂ N₂ Bw rfl rfl (fun z hz => by cases List.mem_singleton.mp hz; exact mem_i 22 rfl) R' (tame _ _ _ q2) fun h₃ q mv => ?_
      exact exc (fun z => h0 (to.symm.trans z)) h₃ _ e' (to ▸ q) (tt ▸ l'.moves mv (news_fs Bw N₂ rfl (mem_i 22 rfl)))
  · rename_i hF F₂ N₂ hent ts kk hst
    have TC : TabAre hF c1 c2 c3 c4 c5 := ⟨F₂.keep _ _ TA.at_, TA.c1.keeps F₂.keep, TA.c2.keeps F₂.keep, TA.c3.keeps F₂.keep, TA.c4.keeps F₂.keep, TA.c5.keeps F₂.keep⟩
    have V : NodeAt w hF ⟨(j : Int), (nd j).own, (nd j).late, (nd j).early, nl, lg, _, _, _, _, _, _, _⟩ (cmOf L) tj _ _ _ :=
      ⟨⟨_, (N₂ _ (mem_i 19 rfl)).1, d10⟩, ⟨_, (N₂ _ (mem_i 20 rfl)).1, d11⟩, ⟨_, (N₂ _ (mem_i 21 rfl)).1, d12⟩, ⟨_, (N₂ _ (mem_i 12 rfl)).1, by assumption⟩, ⟨_, (N₂ _ (mem_i 14 rfl)).1, by assumption⟩, ⟨_, (N₂ _ (mem_i 17 rfl)).1, by assumption⟩, ⟨_, (N₂ _ (mem_i 10 rfl)).1, by assumption⟩, ⟨_, (N₂ _ (mem_i 13 rfl)).1, by assumption⟩, ⟨_, (N₂ _ (mem_i 16 rfl)).1, by assumption⟩, ⟨_, (N₂ _ (mem_i 15 rfl)).1, by assumption⟩, ⟨_, (N₂ _ (mem_i 18 rfl)).1, by assumption⟩, ⟨_, (N₂ _ (mem_i 11 rfl)).1, by assumption⟩,
        ⟨_, _, _, _, _, _, _, _, _, _, _, (N₂ _ (mem_i 6 rfl)).1, rfl, TC.c1, ⟨_, _, _, _, by k_is, rfl, rfl, rfl⟩, List.forall_mem_cons.mpr ⟨rfl, List.forall_mem_cons.mpr ⟨rfl, List.forall_mem_cons.mpr ⟨rfl, List.forall_mem_cons.mpr ⟨rfl, List.forall_mem_nil _⟩⟩⟩⟩⟩,
        ⟨_, _, _, _, _, _, _, _, _, _, _, (N₂ _ (mem_i 5 rfl)).1, rfl, TC.c2, ⟨_, _, _, _, by k_is, rfl, rfl, rfl⟩, List.forall_mem_cons.mpr ⟨rfl, List.forall_mem_cons.mpr ⟨rfl, List.forall_mem_cons.mpr ⟨rfl, List.forall_mem_nil _⟩⟩⟩⟩,
        ⟨_, _, _, _, _, _, _, _, _, _, _, (N₂ _ (mem_i 4 rfl)).1, rfl, TC.c3, ⟨_, _, _, _, by k_is, rfl, rfl, rfl⟩, List.forall_mem_cons.mpr ⟨rfl, List.forall_mem_cons.mpr ⟨rfl, List.forall_mem_cons.mpr ⟨rfl, List.forall_mem_nil _⟩⟩⟩⟩,
        ⟨_, _, _, _, _, _, _, _, _, _, _, (N₂ _ (mem_i 3 rfl)).1, rfl, TC.c4, ⟨_, _, _, _, by k_is, rfl, rfl, rfl⟩, List.forall_mem_cons.mpr ⟨rfl, List.forall_mem_cons.mpr ⟨rfl, List.forall_mem_cons.mpr ⟨rfl, List.forall_mem_nil _⟩⟩⟩⟩,
        ⟨_, _, _, _, _, _, _, _, _, _, _, (N₂ _ (List.Mem.tail _ (List.Mem.tail _ (List.Mem.head _)))).1, rfl, TC.c5, ⟨_, _, _, _, by k_is, rfl, rfl, rfl⟩, List.forall_mem_cons.mpr ⟨rfl, List.forall_mem_cons.mpr ⟨rfl, List.forall_mem_cons.mpr ⟨rfl, List.forall_mem_cons.mpr ⟨rfl, List.forall_mem_cons.mpr ⟨rfl, List.forall_mem_cons.mpr ⟨rfl, List.forall_mem_cons.mpr ⟨rfl, List.forall_mem_nil _⟩⟩⟩⟩⟩⟩⟩⟩⟩
    refine held ?_
    refine run_spec b V rfl (fun b o q => F₂.keep _ _ (Bw.stays b o q)) (pushX Bw F₂ rfl rfl).frames ⟨hlg.1, news_fs Bw N₂ rfl (mem_i 22 rfl)⟩ rfl ?_ ?_ (hN'.fr F₂) hnl ⟨c1, c2, c3, c4, c5, TC⟩ hlen rfl hjl rfl hok ih (log_at hit hg hX1 F₂ (N₂ _ (mem_i 22 rfl)).1) (x := .str (textOf j)) ⟨_, rfl⟩ hes1 (fun he => kids_fit hjl he hes) okj.late okj.early
      (k := (j : Int) - 3) ⟨_, _, _, (N₂ _ (List.Mem.head _)).1, (N₂ _ (List.Mem.tail _ (List.Mem.head _))).1, rfl, rfl, rfl, rfl, ?_, ?_⟩ (shown_is okj (by assumption)) ?_ ?_ ?_ ?_
    · k_room
    · k_room
    · intro z
      rcases List.mem_cons.mp z with z | z
      · have q1 := (N₂ _ (List.Mem.head _)).1
        rw [show _ = lg from z, (N₂ _ (mem_i 22 rfl)).1] at q1
        cases congrArg Obj.data (Option.some.inj q1)
      · exact news_fs Bw N₂ rfl (List.Mem.head _) z
    · intro z
      rcases List.mem_cons.mp z with z | z
      · have q1 := (N₂ _ (List.Mem.tail _ (List.Mem.head _))).1
        rw [show _ = lg from z, (N₂ _ (mem_i 22 rfl)).1] at q1
        cases congrArg Obj.data (Option.some.inj q1)
      · exact news_fs Bw N₂ rfl (List.Mem.tail _ (List.Mem.head _)) z
    · intro he hl ho h' tk' k' l'
      obtain ⟨to, tt⟩ := told_ok hjl he hl ho
      obtain ⟨g₂, t1, F₃, Bw₃, np₃, ld₃⟩ := back Bw F₂ N₂ rfl (X := [lg]) (fun z hz => by cases List.mem_singleton.mp hz; exact mem_i 22 rfl) k'
      obtain ⟨its2, n2, q2, e2⟩ := id l'
      obtain ⟨tups, ht1, ht2⟩ := log_split F₃ q2 e2
      have hsz2 : its2.size ≤ sizeLine := its_fit e2 (by have := congrArg List.length tt; simp only [List.length_cons, List.length_append, List.length_nil] at this ⊢; omega)
      have N₃ : News g₂ L h' ((L + 1 + 1 + 1, o10') :: (L + 1, o12') :: (lg, W.listOf its2 n2) :: tups) := fun z hz => by
        rcases List.mem_cons.mp hz with rfl | hz
        · exact ⟨ld₃ _ (mem_i 19 rfl) (fun q => ne3 (List.mem_singleton.mp q)), (N₂ _ (mem_i 19 rfl)).2.1, np₃ _ (N₂ _ (mem_i 19 rfl)).2.2⟩
        · rcases List.mem_cons.mp hz with rfl | hz
          · exact ⟨ld₃ _ (mem_i 21 rfl) (fun q => ne1 (List.mem_singleton.mp q)), (N₂ _ (mem_i 21 rfl)).2.1, np₃ _ (N₂ _ (mem_i 21 rfl)).2.2⟩
          · rcases List.mem_cons.mp hz with rfl | hz
            · exact ⟨q2, (N₂ _ (mem_i 22 rfl)).2.1, np₃ _ (N₂ _ (mem_i 22 rfl)).2.2⟩
            · exact (ht1 _ hz).1
      have X₃ := b.X.keeps Bw₃.stays
      have T₃ := b.T.keeps Bw₃.stays
      clear F₂ N₂ V TC X' T'
      change wpAny _ _ _ _ _ _
      try k_fold
      repeat' (first | ((with_reducible show wpAny _ _ (call (Value.builtin "list.append") _) _ _ _); refine hold_call ?_) | ((with_reducible show wpAny _ _ (call (Value.ref 35) _) _ _ _); refine hold_call ?_) | ((with_reducible show wpAny _ _ (call (Value.ref 42) _) _ _ _); refine hold_call ?_) | ((with_reducible show wpAny _ _ (assign (Expr.Tuple _ _ _) _ (Value.ref _)) _ _ _); k_dflt (refine' nd_unpack ?q9F ?q9N ?q9D ?q9k1 ?q9k2 ?q9k3 ?_; (case q9F => k_asm); (case q9N => k_asm); (case q9D => assumption); (case q9k1 => exact rfl); (case q9k2 => exact rfl); (case q9k3 => exact rfl)); intro _ _ _ _ _ _ _ _ _ _) | ((with_reducible show wpAny _ _ (subscriptTail _ _ (Value.ref _) (Value.int 0 _)) _ _ _); k_dflt (refine' nd_item ?q9F ?q9N ?_ ?q9hs; (case q9F => k_asm); (case q9N => assumption); (case q9hs => with_unfolding_all rfl); k_whole); intro _) | ((with_reducible show wpAny _ _ (subscriptTail _ _ (Value.ref _) (Value.int _ _)) _ _ _); k_dflt (refine' nodes_item ?q9F ?q9N ?q9k0 ?q9k1 ?q9l ?_ ?q9hs; (case q9F => k_asm); (case q9N => assumption); (case q9k0 => first | exact Int.natCast_nonneg _ | with_reducible assumption | omega); (case q9k1 => first | exact Int.ofNat_lt.mpr (by with_reducible assumption) | with_reducible assumption | omega); (case q9l => assumption); (case q9hs => with_unfolding_all rfl); k_whole); intro _ _) | (k_unfold; (try dsimp only)) | (k_end; wrow_close) | walk1 | (dsimp only; walk1) | (leave1; try dsimp only) | fail "no step")
      rename_i h₄ F₄ N₄ hk4 nm4
      have hD := (N₄ _ (List.Mem.head _)).1
      have hlg4 := (N₄ _ (mem_i 3 rfl)).1
      refine held (append_K F₄ N₄ (.tail (fun z => ?_) (.tail ne3 (.tail ne1 (.head fun p hp => (ht1 p hp).2)))) (fun h₅ F₅ N₅ => ?_) hsz2)
      · have z' := (congrArg h₄.get? z).symm.trans hD
        dsimp only at hlg4
        rw [hlg4] at z'
        exact absurd (Value.type.inj (congrArg Obj.cls (Option.some.inj z'))) (by decide)
      · refine wpAny_execs_nil ?_
        have eqT : es ++ told nd len j = (es ++ ⟨0, j, .str (Str.ofString "")⟩ :: ⟨1, j, .str (textOf j)⟩ :: (kidsTold nd (out nd len) (told nd len) j (len - (j + 1)) (j + 1) ++ [shownOf (nd j) j])) ++ [⟨4, j, .none⟩] := by
          rw [tt]
          simp only [List.append_assoc, List.cons_append, List.nil_append]
        refine ret to _ _ (exitR_k hop hg t1 F₅ (tame _ _ _ (N₅ _ (mem_i 3 rfl)).1)) ?_
        rw [eqT]
        refine ⟨_, _, (N₅ _ (mem_i 3 rfl)).1, ?_⟩
        rw [Array.toList_push]
        exact Ents.snoc (e := ⟨4, j, .none⟩) ⟨_, _, _, _, _, _, rfl, (N₅ _ (List.Mem.head _)).1, rfl, rfl, rfl⟩ (ht2 h₅ F₅.keep fun p hp => (N₅ p (List.Mem.tail _ (List.Mem.tail _ (List.Mem.tail _ (List.Mem.tail _ hp))))).1)
    · intro he h' tk' e' R' l'
      obtain ⟨to, tt⟩ := told_early hjl he
      obtain ⟨its2, n2, q2, _⟩ := id l'
      refine thrown_call (Xn := [lg]) hop hg (.refl _) F₂ N₂ Bw rfl rfl (fun z hz => by cases List.mem_singleton.mp hz; exact mem_i 22 rfl) R' (tame _ _ _ q2) fun h₃ q mv => ?_
      exact exc (fun z => he (to.symm.trans z)) h₃ _ e' (to ▸ q) (tt ▸ l'.moves mv (news_fs Bw N₂ rfl (mem_i 22 rfl)))
    · intro he hl h' tk' e' R' l'
      obtain ⟨to, tt⟩ := told_late hjl he hl
      obtain ⟨its2, n2, q2, _⟩ := id l'
      refine thrown_call (Xn := [lg]) hop hg (.refl _) F₂ N₂ Bw rfl rfl (fun z hz => by cases List.mem_singleton.mp hz; exact mem_i 22 rfl) R' (tame _ _ _ q2) fun h₃ q mv => ?_
      exact exc (fun z => hl (to.symm.trans z)) h₃ _ e' (to ▸ q) (tt ▸ l'.moves mv (news_fs Bw N₂ rfl (mem_i 22 rfl)))
    · intro he hl h0 h1 h' tk' e' R' l'
      obtain ⟨to, tt⟩ := told_kid hjl he hl h0 h1
      obtain ⟨its2, n2, q2, _⟩ := id l'
      refine thrown_call (Xn := [lg]) hop hg (.refl _) F₂ N₂ Bw rfl rfl (fun z hz => by cases List.mem_singleton.mp hz; exact mem_i 22 rfl) R' (tame _ _ _ q2) fun h₃ q mv => ?_
      exact exc (fun z => h0 (to.symm.trans z)) h₃ _ e' (to ▸ q) (tt ▸ l'.moves mv (news_fs Bw N₂ rfl (mem_i 22 rfl)))
end
end

/-! F15 -/

theorem Sta.as {o o' : Obj} (x : Sta o) (e : o = o') : Sta o' := e ▸ x
theorem CodeRec.as {h : Heap} {c : Value} {q q' : Str} (x : h.CodeRec c q) (e : q = q') : h.CodeRec c q' := e ▸ x
theorem sta_tab {c1 c2 c3 c4 c5 : Addr} : Sta (tabOf c1 c2 c3 c4 c5) := fun vs q v hv => by
  cases q
  have h : some (rawInt 4) = some v := hv
  cases h
  exact ⟨fun z => (by cases z), fun T z => (by cases z)⟩
section
variable {prog : Program} {w : World} {A A₀ : Around} {outer : List Env} {s : Shared} {E : Value → Shared → Prop} {Q : Value → Shared → Prop} {g B : Heap} {L : Addr} {m : Str → Option Value} {news : List (Addr × Obj)} {nl : Addr} {nd : Nat → Nd} {len : Nat}
theorem nodes_item0 {value slice : Expr} {k : Int} {u : Tok} (F : Fr g L s.heap m) (N : NodesIs g nl nd len) (h0 : 0 ≤ k) (h1 : k < len) (hlen : len ≤ 100) (he : (nd k.toNat).entry = 0) (h : ∀ t, NdIs g t ⟨(nd k.toNat).parent, (nd k.toNat).own, 0, (nd k.toNat).place, (nd k.toNat).late, (nd k.toNat).early⟩ → Q (.ref t) s)
    (hs : subscripted slice false (.ref nl) (.int k u) = operate [.ref nl, .int k u] (getItem (.ref nl) (.int k u)) := by with_unfolding_all rfl) :
    wpAny (model prog w) A (subscriptTail value slice (.ref nl) (.int k u)) Q E s :=
  nodes_item F N h0 h1 hlen (fun t D => h t (by
    obtain ⟨t1, t2, t3, x, t5, t6, hl, hx⟩ := D
    rw [he] at hl
    exact ⟨t1, t2, t3, x, t5, t6, hl, hx⟩)) hs
end
section
local macro_rules | `(tactic| k_lt $h) => `(tactic| (replace $h := lt_head $h))
section
variable {prog : Program} {w : World} {p : Program} {loose : List Str} {mean : ExcName → Option Value} {mg mb : Str → Option Value} {B : Heap} {nd : Nat → Nd} {len j : Nat}
theorem do0_spec (b : Base w p loose mean mg mb B) (hok : ∀ i, i < len → (nd i).Ok) (hlen : len ≤ 100) (hjl : j < len) (he0 : (nd j).entry = 0) (ih : ∀ i, j < i → i < len → DoOk prog w B nd len i)
    {A : Around} {outer : List Env} {s : Shared} {Q E : Value → Shared → Prop} {lg nl : Addr} {es : List Ent} {tj : Tok} (hst : A.frames = some outer) (hB : B.StaysIn s.heap) (hff : s.heap.FunFrames B outer) (hlg : B.get? lg = none ∧ lg ∉ fs outer) (hP : B.get? 72 = none ∧ 72 ∉ fs outer) (hA : A.handled = none)
    (hroom : A.depth + (50 * (len - j) + 60) < recursionLimit) (hun : A.units + (200 * (len - j) + 700) < cLine) (hN : NodesIs s.heap nl nd len) (hnl : nl ≠ lg) (hT : s.heap.get? 72 = some (tabObj #[])) (hlog : LogIs s.heap lg es) (hes : es.length + (told nd len j).length ≤ 100000)
    (ret : out nd len j = 0 → ∀ h' tk', Keeps (fs outer) [lg, 72] s.heap h' → LogIs h' lg (es ++ told nd len j) → (∃ c1 c2 c3 c4 c5, h'.get? 72 = some (tabOf c1 c2 c3 c4 c5)) → Q .none { s with heap := h', toks := tk' })
    (exc : out nd len j ≠ 0 → ∀ h' tk' e, Raised outer [lg, 72] s.heap h' e (excOf (out nd len j)) → LogIs h' lg (es ++ told nd len j) → (∃ c1 c2 c3 c4 c5, h'.get? 72 = some (tabOf c1 c2 c3 c4 c5)) → E (.ref e) { s with heap := h', toks := tk' }) :
    wpAny (model prog w) A (call (.ref 77) [.int j tj, .ref nl, .ref lg]) Q E s := by
  have ff : PySem.Challenge.rw_kl0226_01 = PySem.Challenge.rw_kl0226_01 ∧ hd.heap_39 = hd.heap_39 := by
    k_fill
    exact ⟨rfl, rfl⟩
  clear ff
  obtain ⟨hd, dp, fr, gd, un⟩ := A
  cases hst
  dsimp only at hA hroom hun
  subst hA
  have X₀ := b.X.keeps hB
  obtain ⟨its, nn, hlo, hit⟩ := hlog
  have hl72 : lg ≠ 72 := fun q => by rw [q, hT] at hlo; cases congrArg Obj.data (Option.some.inj hlo)
  have hop : Open B outer s.heap [(lg, listOf its nn), (72, tabObj #[])] := fun p hp => by
    rcases List.mem_cons.mp hp with rfl | hp
    · exact ⟨hlo, hlg⟩
    · cases List.mem_singleton.mp hp
      exact ⟨hT, hP⟩
  refine' enterC_k (B := B) (binds := [(Str.ofString "number", .int j tj), (Str.ofString "nodes", .ref nl), (Str.ofString "log", .ref lg)]) [(lg, listOf its nn), (72, tabObj #[])] rfl hB hff hop b.T.nolimit ?k1 ?k2 ?k3 ?k4 ?k5 ?k6 ?k7 ?_ ?k8 ?k9 ?k10
  case k1 => exact X₀ _ _ (by k_is)
  case k2 => exact rfl
  case k3 => exact codeRec_of X₀ (by k_is)
  case k4 => exact Nat.lt_of_le_of_lt (Nat.le_add_right _ _) hroom
  case k5 => exact BindsTo.of_eq rfl
  case k6 => exact rfl
  case k7 => decide +kernel
  case k8 => exact rfl
  case k9 => exact rfl
  case k10 => exact rfl
  intro g L h₁ tk₁ cells hg hL F N Y Bw
  have tame : ∀ h' its' n', h'.get? lg = some (listOf its' n') → Tame s.heap h' [(lg, listOf its nn), (72, tabObj #[])] := fun h' its' n' q p hp => by
    rcases List.mem_cons.mp hp with rfl | hp
    · exact (Tame.list (h₀ := s.heap) q) _ (List.mem_singleton_self _)
    · cases List.mem_singleton.mp hp
      refine ⟨fun q => ?_, fun z => absurd rfl (z _)⟩
      rcases q with q | q | q <;> cases q
  have X' := b.X.keeps Bw.stays
  have T' := b.T.keeps Bw.stays
  have C' := b.C.keeps Bw.stays
  have hsz : its.size ≤ sizeLine := its_fit hit (by omega)
  have hX1 : ∀ z ∈ [(lg, listOf its nn), (72, tabObj #[])].map (·.1), ∀ o, s.heap.get? z = some o → o.cls ≠ .type "tuple" := fun z hz o q => by
    rcases List.mem_cons.mp hz with rfl | hz
    · rw [hlo] at q; cases q
      exact fun z => absurd (Value.type.inj z) (by decide)
    · cases List.mem_singleton.mp hz
      rw [hT] at q; cases q
      exact fun z => by cases z
  have hnlX : nl ∉ [(lg, listOf its nn), (72, tabObj #[])].map (·.1) := fun hz => by
    rcases List.mem_cons.mp hz with hz | hz
    · exact hnl hz
    · have hz' := List.mem_singleton.mp hz
      obtain ⟨its9, ⟨o9, h9, c9, n9, d9⟩, _⟩ := hN
      rw [hz', hT] at h9
      cases h9
      cases d9
  have hN' : NodesIs g nl nd len := hg ▸ hN.ground hnlX hX1
  have llg : @LT.lt Nat _ lg L := hL ▸ Heap.lt_size hlo
  have ne3 : @Ne Nat (L + 1 + 1 + 1) lg := by omega
  have ne1 : @Ne Nat (L + 1) lg := by omega
  have l72 : @LT.lt Nat _ 72 L := hL ▸ Heap.lt_size hT
  obtain ⟨o1', o2', o3', o4', o5', o6', o7', o8', o9', o10', o11', o12', hE', d1', d2', d3', d4', d5', d6', d7', d8', d9', d10', d11', d12'⟩ := kc12 Y
  subst hE'
  clear Y
  simp only [List.cons_append, List.nil_append] at N
  have okj := hok j hjl
  have hes1 : es.length + 1 ≤ 100000 := by have := told_pos (nd := nd) hjl; omega
  have d10 : o10'.data = .cell (some (.ref lg)) := d10'
  have d11 : o11'.data = .cell (some (.ref nl)) := d11'
  have d12 : o12'.data = .cell (some (.int j tj)) := d12'
  change wpAny _ _ _ _ _ _
  k_fold
  repeat' (first | ((with_reducible show wpAny _ _ (call (Value.builtin "list.append") _) _ _ _); refine hold_call ?_) | ((with_reducible show wpAny _ _ (call (Value.ref 35) _) _ _ _); refine hold_call ?_) | ((with_reducible show wpAny _ _ (call (Value.ref 42) _) _ _ _); refine hold_call ?_) | ((with_reducible show wpAny _ _ (assign (Expr.Tuple _ _ _) _ (Value.ref _)) _ _ _); k_dflt (refine' nd_unpack ?q9F ?q9N ?q9D ?q9k1 ?q9k2 ?q9k3 ?_; (case q9F => k_asm); (case q9N => k_asm); (case q9D => assumption); (case q9k1 => exact rfl); (case q9k2 => exact rfl); (case q9k3 => exact rfl)); intro _ _ _ _ _ _ _ _ _ _) | ((with_reducible show wpAny _ _ (subscriptTail _ _ (Value.ref _) (Value.int 0 _)) _ _ _); k_dflt (refine' nd_item ?q9F ?q9N ?_ ?q9hs; (case q9F => k_asm); (case q9N => assumption); (case q9hs => with_unfolding_all rfl); k_whole); intro _) | ((with_reducible show wpAny _ _ (subscriptTail _ _ (Value.ref _) (Value.int _ _)) _ _ _); k_dflt (refine' nodes_item0 ?q9F ?q9N ?q9k0 ?q9k1 ?q9l ?q9he ?_ ?q9hs; (case q9F => k_asm); (case q9N => assumption); (case q9k0 => first | exact Int.natCast_nonneg _ | with_reducible assumption | omega); (case q9k1 => first | exact Int.ofNat_lt.mpr (by with_reducible assumption) | with_reducible assumption | omega); (case q9l => assumption); (case q9he => assumption); (case q9hs => with_unfolding_all rfl); k_whole); intro _ _) | (k_unfold; (try dsimp only)) | (k_end; wrow_close) | walk1 | (dsimp only; walk1) | (leave1; try dsimp only) | fail "no step")
  · rename_i hF F₂ N₂ ts kk hst
    have TF : FullTab hF := ⟨_, _, _, _, _, (N₂ _ (mem_i 28 rfl)).1, CodeRec.as (codeRec_news N₂ (mem_i 11 rfl) (by assumption) (by assumption)) (by kernel_rfl), CodeRec.as (codeRec_news N₂ (mem_i 9 rfl) (by assumption) (by assumption)) (by kernel_rfl), CodeRec.as (codeRec_news N₂ (mem_i 7 rfl) (by assumption) (by assumption)) (by kernel_rfl), CodeRec.as (codeRec_news N₂ (mem_i 5 rfl) (by assumption) (by assumption)) (by kernel_rfl), CodeRec.as (codeRec_news N₂ (mem_i 3 rfl) (by assumption) (by assumption)) (by kernel_rfl)⟩
    obtain ⟨c1, c2, c3, c4, c5, TC⟩ := id TF
    have tabE := TC.at_.symm.trans (N₂ _ (mem_i 28 rfl)).1
    have V : NodeAt w hF ⟨(j : Int), (nd j).own, (nd j).late, (nd j).early, nl, lg, _, _, _, _, _, _, _⟩ (cmOf L) tj _ _ _ :=
      ⟨⟨_, (N₂ _ (mem_i 24 rfl)).1, d10⟩, ⟨_, (N₂ _ (mem_i 25 rfl)).1, d11⟩, ⟨_, (N₂ _ (mem_i 26 rfl)).1, d12⟩, ⟨_, (N₂ _ (mem_i 17 rfl)).1, by assumption⟩, ⟨_, (N₂ _ (mem_i 19 rfl)).1, by assumption⟩, ⟨_, (N₂ _ (mem_i 22 rfl)).1, by assumption⟩, ⟨_, (N₂ _ (mem_i 15 rfl)).1, by assumption⟩, ⟨_, (N₂ _ (mem_i 18 rfl)).1, by assumption⟩, ⟨_, (N₂ _ (mem_i 21 rfl)).1, by assumption⟩, ⟨_, (N₂ _ (mem_i 20 rfl)).1, by assumption⟩, ⟨_, (N₂ _ (mem_i 23 rfl)).1, by assumption⟩, ⟨_, (N₂ _ (mem_i 16 rfl)).1, by assumption⟩,
        ⟨_, _, _, _, _, _, _, _, _, _, _, (N₂ _ (mem_i 10 rfl)).1, rfl, codeRec_news N₂ (mem_i 11 rfl) (by assumption) (by assumption), ⟨_, _, _, _, by k_is, rfl, rfl, rfl⟩, List.forall_mem_cons.mpr ⟨rfl, List.forall_mem_cons.mpr ⟨rfl, List.forall_mem_cons.mpr ⟨rfl, List.forall_mem_cons.mpr ⟨rfl, List.forall_mem_nil _⟩⟩⟩⟩⟩,
        ⟨_, _, _, _, _, _, _, _, _, _, _, (N₂ _ (mem_i 8 rfl)).1, rfl, codeRec_news N₂ (mem_i 9 rfl) (by assumption) (by assumption), ⟨_, _, _, _, by k_is, rfl, rfl, rfl⟩, List.forall_mem_cons.mpr ⟨rfl, List.forall_mem_cons.mpr ⟨rfl, List.forall_mem_cons.mpr ⟨rfl, List.forall_mem_nil _⟩⟩⟩⟩,
        ⟨_, _, _, _, _, _, _, _, _, _, _, (N₂ _ (mem_i 6 rfl)).1, rfl, codeRec_news N₂ (mem_i 7 rfl) (by assumption) (by assumption), ⟨_, _, _, _, by k_is, rfl, rfl, rfl⟩, List.forall_mem_cons.mpr ⟨rfl, List.forall_mem_cons.mpr ⟨rfl, List.forall_mem_cons.mpr ⟨rfl, List.forall_mem_nil _⟩⟩⟩⟩,
        ⟨_, _, _, _, _, _, _, _, _, _, _, (N₂ _ (mem_i 4 rfl)).1, rfl, codeRec_news N₂ (mem_i 5 rfl) (by assumption) (by assumption), ⟨_, _, _, _, by k_is, rfl, rfl, rfl⟩, List.forall_mem_cons.mpr ⟨rfl, List.forall_mem_cons.mpr ⟨rfl, List.forall_mem_cons.mpr ⟨rfl, List.forall_mem_nil _⟩⟩⟩⟩,
        ⟨_, _, _, _, _, _, _, _, _, _, _, (N₂ _ (List.Mem.tail _ (List.Mem.tail _ (List.Mem.head _)))).1, rfl, codeRec_news N₂ (mem_i 3 rfl) (by assumption) (by assumption), ⟨_, _, _, _, by k_is, rfl, rfl, rfl⟩, List.forall_mem_cons.mpr ⟨rfl, List.forall_mem_cons.mpr ⟨rfl, List.forall_mem_cons.mpr ⟨rfl, List.forall_mem_cons.mpr ⟨rfl, List.forall_mem_cons.mpr ⟨rfl, List.forall_mem_cons.mpr ⟨rfl, List.forall_mem_cons.mpr ⟨rfl, List.forall_mem_nil _⟩⟩⟩⟩⟩⟩⟩⟩⟩
    refine held ?_
    refine run_spec b V rfl (fun b o q => F₂.keep _ _ (Bw.stays b o q)) (pushX Bw F₂ rfl rfl).frames ⟨hlg.1, news_fs Bw N₂ rfl (mem_i 27 rfl)⟩ rfl ?_ ?_ (hN'.fr F₂) hnl ⟨c1, c2, c3, c4, c5, TC⟩ hlen rfl hjl rfl hok ih (log_at hit hg hX1 F₂ (N₂ _ (mem_i 27 rfl)).1) (x := .str (textOf j)) ⟨_, rfl⟩ hes1 (fun he => kids_fit hjl he hes) okj.late okj.early
      (k := (j : Int) - 3) ⟨_, _, _, (N₂ _ (List.Mem.head _)).1, (N₂ _ (List.Mem.tail _ (List.Mem.head _))).1, rfl, rfl, rfl, rfl, ?_, ?_⟩ (shown_is okj (by assumption)) ?_ ?_ ?_ ?_
    · k_room
    · k_room
    · intro z
      rcases List.mem_cons.mp z with z | z
      · have q1 := (N₂ _ (List.Mem.head _)).1
        rw [show _ = lg from z, (N₂ _ (mem_i 27 rfl)).1] at q1
        cases congrArg Obj.data (Option.some.inj q1)
      · exact news_fs Bw N₂ rfl (List.Mem.head _) z
    · intro z
      rcases List.mem_cons.mp z with z | z
      · have q1 := (N₂ _ (List.Mem.tail _ (List.Mem.head _))).1
        rw [show _ = lg from z, (N₂ _ (mem_i 27 rfl)).1] at q1
        cases congrArg Obj.data (Option.some.inj q1)
      · exact news_fs Bw N₂ rfl (List.Mem.tail _ (List.Mem.head _)) z
    · intro he hl ho h' tk' k' l'
      obtain ⟨to, tt⟩ := told_ok hjl he hl ho
      obtain ⟨g₂, t1, F₃, Bw₃, np₃, ld₃⟩ := back Bw F₂ N₂ rfl (X := [lg]) (fun z hz => by cases List.mem_singleton.mp hz; exact mem_i 27 rfl) k'
      obtain ⟨its2, n2, q2, e2⟩ := id l'
      obtain ⟨tups, ht1, ht2⟩ := log_split F₃ q2 e2
      have hsz2 : its2.size ≤ sizeLine := its_fit e2 (by have := congrArg List.length tt; simp only [List.length_cons, List.length_append, List.length_nil] at this ⊢; omega)
      have N₃ : News g₂ L h' ((L + 1 + 1 + 1, o10') :: (L + 1, o12') :: (72, tabOf c1 c2 c3 c4 c5) :: (lg, W.listOf its2 n2) :: tups) := fun z hz => by
        rcases List.mem_cons.mp hz with rfl | hz
        · exact ⟨ld₃ _ (mem_i 24 rfl) (fun q => ne3 (List.mem_singleton.mp q)), (N₂ _ (mem_i 24 rfl)).2.1, np₃ _ (N₂ _ (mem_i 24 rfl)).2.2⟩
        · rcases List.mem_cons.mp hz with rfl | hz
          · exact ⟨ld₃ _ (mem_i 26 rfl) (fun q => ne1 (List.mem_singleton.mp q)), (N₂ _ (mem_i 26 rfl)).2.1, np₃ _ (N₂ _ (mem_i 26 rfl)).2.2⟩
          · rcases List.mem_cons.mp hz with rfl | hz
            · exact ⟨(ld₃ _ (mem_i 28 rfl) (fun q => hl72 (List.mem_singleton.mp q).symm)).trans tabE.symm, (N₂ _ (mem_i 28 rfl)).2.1, np₃ _ (N₂ _ (mem_i 28 rfl)).2.2⟩
            rcases List.mem_cons.mp hz with rfl | hz
            · exact ⟨q2, (N₂ _ (mem_i 27 rfl)).2.1, np₃ _ (N₂ _ (mem_i 27 rfl)).2.2⟩
            · exact (ht1 _ hz).1
      have X₃ := b.X.keeps Bw₃.stays
      have T₃ := b.T.keeps Bw₃.stays
      clear F₂ N₂ V TC X' T'
      change wpAny _ _ _ _ _ _
      try k_fold
      repeat' (first | ((with_reducible show wpAny _ _ (call (Value.builtin "list.append") _) _ _ _); refine hold_call ?_) | ((with_reducible show wpAny _ _ (call (Value.ref 35) _) _ _ _); refine hold_call ?_) | ((with_reducible show wpAny _ _ (call (Value.ref 42) _) _ _ _); refine hold_call ?_) | ((with_reducible show wpAny _ _ (assign (Expr.Tuple _ _ _) _ (Value.ref _)) _ _ _); k_dflt (refine' nd_unpack ?q9F ?q9N ?q9D ?q9k1 ?q9k2 ?q9k3 ?_; (case q9F => k_asm); (case q9N => k_asm); (case q9D => assumption); (case q9k1 => exact rfl); (case q9k2 => exact rfl); (case q9k3 => exact rfl)); intro _ _ _ _ _ _ _ _ _ _) | ((with_reducible show wpAny _ _ (subscriptTail _ _ (Value.ref _) (Value.int 0 _)) _ _ _); k_dflt (refine' nd_item ?q9F ?q9N ?_ ?q9hs; (case q9F => k_asm); (case q9N => assumption); (case q9hs => with_unfolding_all rfl); k_whole); intro _) | ((with_reducible show wpAny _ _ (subscriptTail _ _ (Value.ref _) (Value.int _ _)) _ _ _); k_dflt (refine' nodes_item0 ?q9F ?q9N ?q9k0 ?q9k1 ?q9l ?q9he ?_ ?q9hs; (case q9F => k_asm); (case q9N => assumption); (case q9k0 => first | exact Int.natCast_nonneg _ | with_reducible assumption | omega); (case q9k1 => first | exact Int.ofNat_lt.mpr (by with_reducible assumption) | with_reducible assumption | omega); (case q9l => assumption); (case q9he => assumption); (case q9hs => with_unfolding_all rfl); k_whole); intro _ _) | (k_unfold; (try dsimp only)) | (k_end; wrow_close) | walk1 | (dsimp only; walk1) | (leave1; try dsimp only) | fail "no step")
      rename_i h₄ F₄ N₄ hk4 nm4
      have hD := (N₄ _ (List.Mem.head _)).1
      have hlg4 := (N₄ _ (mem_i 4 rfl)).1
      refine held (append_K F₄ N₄ (.tail (fun z => ?_) (.tail ne3 (.tail ne1 (.tail hl72.symm (.head fun p hp => (ht1 p hp).2))))) (fun h₅ F₅ N₅ => ?_) hsz2)
      · have z' := (congrArg h₄.get? z).symm.trans hD
        dsimp only at hlg4
        rw [hlg4] at z'
        exact absurd (Value.type.inj (congrArg Obj.cls (Option.some.inj z'))) (by decide)
      · refine wpAny_execs_nil ?_
        have eqT : es ++ told nd len j = (es ++ ⟨0, j, .str (Str.ofString "")⟩ :: ⟨1, j, .str (textOf j)⟩ :: (kidsTold nd (out nd len) (told nd len) j (len - (j + 1)) (j + 1) ++ [shownOf (nd j) j])) ++ [⟨4, j, .none⟩] := by
          rw [tt]
          simp only [List.append_assoc, List.cons_append, List.nil_append]
        refine ret to _ _ (exitR_k hop hg t1 F₅ (tame _ _ _ (N₅ _ (mem_i 4 rfl)).1)) ?_ ⟨_, _, _, _, _, (N₅ _ (mem_i 3 rfl)).1⟩
        rw [eqT]
        refine ⟨_, _, (N₅ _ (mem_i 4 rfl)).1, ?_⟩
        rw [Array.toList_push]
        exact Ents.snoc (e := ⟨4, j, .none⟩) ⟨_, _, _, _, _, _, rfl, (N₅ _ (List.Mem.head _)).1, rfl, rfl, rfl⟩ (ht2 h₅ F₅.keep fun p hp => (N₅ p (List.Mem.tail _ (List.Mem.tail _ (List.Mem.tail _ (List.Mem.tail _ (List.Mem.tail _ hp)))))).1)
    · intro he h' tk' e' R' l'
      obtain ⟨to, tt⟩ := told_early hjl he
      obtain ⟨its2, n2, q2, _⟩ := id l'
      refine thrown_call (Xn := [lg]) hop hg (.refl _) F₂ N₂ Bw rfl rfl (fun z hz => by cases List.mem_singleton.mp hz; exact mem_i 27 rfl) R' (tame _ _ _ q2) fun h₃ q mv => ?_
      exact exc (fun z => he (to.symm.trans z)) h₃ _ e' (to ▸ q) (tt ▸ l'.moves mv (news_fs Bw N₂ rfl (mem_i 27 rfl))) ⟨c1, c2, c3, c4, c5, (news_moves Bw N₂ rfl R'.keeps mv (q := (72, _)) (mem_i 28 rfl) (fun q => hl72 (List.mem_singleton.mp q).symm) (Sta.as sta_tab (Option.some.inj tabE))).trans tabE.symm⟩
    · intro he hl h' tk' e' R' l'
      obtain ⟨to, tt⟩ := told_late hjl he hl
      obtain ⟨its2, n2, q2, _⟩ := id l'
      refine thrown_call (Xn := [lg]) hop hg (.refl _) F₂ N₂ Bw rfl rfl (fun z hz => by cases List.mem_singleton.mp hz; exact mem_i 27 rfl) R' (tame _ _ _ q2) fun h₃ q mv => ?_
      exact exc (fun z => hl (to.symm.trans z)) h₃ _ e' (to ▸ q) (tt ▸ l'.moves mv (news_fs Bw N₂ rfl (mem_i 27 rfl))) ⟨c1, c2, c3, c4, c5, (news_moves Bw N₂ rfl R'.keeps mv (q := (72, _)) (mem_i 28 rfl) (fun q => hl72 (List.mem_singleton.mp q).symm) (Sta.as sta_tab (Option.some.inj tabE))).trans tabE.symm⟩
    · intro he hl h0 h1 h' tk' e' R' l'
      obtain ⟨to, tt⟩ := told_kid hjl he hl h0 h1
      obtain ⟨its2, n2, q2, _⟩ := id l'
      refine thrown_call (Xn := [lg]) hop hg (.refl _) F₂ N₂ Bw rfl rfl (fun z hz => by cases List.mem_singleton.mp hz; exact mem_i 27 rfl) R' (tame _ _ _ q2) fun h₃ q mv => ?_
      exact exc (fun z => h0 (to.symm.trans z)) h₃ _ e' (to ▸ q) (tt ▸ l'.moves mv (news_fs Bw N₂ rfl (mem_i 27 rfl))) ⟨c1, c2, c3, c4, c5, (news_moves Bw N₂ rfl R'.keeps mv (q := (72, _)) (mem_i 28 rfl) (fun q => hl72 (List.mem_singleton.mp q).symm) (Sta.as sta_tab (Option.some.inj tabE))).trans tabE.symm⟩
end
end

/-! F16 -/

theorem sub_KE (X : String) (h : ExC (.type X)) : isSubtype (.type X) (.type "KeyError") = pure (decide (X = "KeyError")) := by
  rcases h with h | h | h <;> (obtain rfl := Value.type.inj h; rw [isSubtype_type]; kernel_rfl)
theorem sub_VE (X : String) (h : ExC (.type X)) : isSubtype (.type X) (.type "ValueError") = pure (decide (X = "ValueError")) := by
  rcases h with h | h | h <;> (obtain rfl := Value.type.inj h; rw [isSubtype_type]; kernel_rfl)
theorem notTuple_KE : isSubtype (.type ((Manifest.find? "KeyError").elim "type" fun x => x.metatype)) (.type "tuple") = pure false := by
  have : (Manifest.find? "KeyError").elim "type" (fun x => x.metatype) = "type" := by decide +kernel
  rw [this, isSubtype_type]; kernel_rfl
theorem notTuple_VE : isSubtype (.type ((Manifest.find? "ValueError").elim "type" fun x => x.metatype)) (.type "tuple") = pure false := by
  have : (Manifest.find? "ValueError").elim "type" (fun x => x.metatype) = "type" := by decide +kernel
  rw [this, isSubtype_type]; kernel_rfl
section
variable {prog : Program} {w : World} {p : Program} {loose : List Str} {mean : ExcName → Option Value} {mg mb : Str → Option Value} {B : Heap} {nd : Nat → Nd} {len : Nat}
theorem all_ok (b : Base w p loose mean mg mb B) (hok : ∀ i, i < len → (nd i).Ok) (hlen : len ≤ 100) : ∀ d j, len ≤ j + d → j < len → DoOk prog w B nd len j := by
  intro d
  induction d with
  | zero => intro j h1 h2; omega
  | succ d ih => exact fun j h1 h2 => do_spec b hok hlen h2 fun i h3 h4 => ih i (by omega) h4
end

theorem excOf_ke {k : Int} (h : excOf k = "KeyError") : k = 2 := by
  unfold excOf at h
  by_cases q : k = 1
  · rw [if_pos q] at h; exact absurd h (by decide)
  · rw [if_neg q] at h
    by_cases q2 : k = 2
    · exact q2
    · rw [if_neg q2] at h; exact absurd h (by decide)
theorem setFlight_s {M : Model} {A : Around} {E : Value → Shared → Prop} {s : Shared} {B h₀ : Heap} {S : List Addr} {e : Addr} {c x : Value} {Q : Unit → Shared → Prop} {fr : Option Addr} (p : Step B S h₀ s.heap e c x)
    (h : ∀ h', Step B S h₀ h' e c x → Q () { s with heap := h' }) : wpAny M A (setFlight (.ref e) fr) Q E s := setFlight_k (S := S) p.exc fun h' q => h h' (p.trans q)
section
local macro_rules | `(tactic| walk_at "exec Try cons cons nil nil") => `(tactic| (k_here; refine hold_Try ?_))
section
variable {prog : Program} {w : World} {p : Program} {loose : List Str} {mean : ExcName → Option Value} {mg mb : Str → Option Value} {B : Heap} {nd : Nat → Nd} {len : Nat}
theorem caught_spec (b : Base w p loose mean mg mb B) (hok : ∀ i, i < len → (nd i).Ok) (hlen : len ≤ 100) (hjl : 0 < len) (he0 : (nd 0).entry = 0)
    {A : Around} {outer : List Env} {s : Shared} {Q E : Value → Shared → Prop} {lg nl : Addr} {es : List Ent} (hst : A.frames = some outer) (hB : B.StaysIn s.heap) (hff : s.heap.FunFrames B outer) (hlg : B.get? lg = none ∧ lg ∉ fs outer) (hP : B.get? 72 = none ∧ 72 ∉ fs outer) (hA : A.handled = none)
    (hroom : A.depth + (50 * len + 70) < recursionLimit) (hun : A.units + (200 * len + 720) < cLine) (hN : NodesIs s.heap nl nd len) (hnl : nl ≠ lg) (hT : s.heap.get? 72 = some (tabObj #[])) (hlog : LogIs s.heap lg es) (hes : es.length + (told nd len 0).length ≤ 100000)
    (ret : ∀ h' tk' t, Keeps (fs outer) [lg, 72] s.heap h' → LogIs h' lg (es ++ told nd len 0) → (∃ c1 c2 c3 c4 c5, h'.get? 72 = some (tabOf c1 c2 c3 c4 c5)) → Q (.int (out nd len 0) t) { s with heap := h', toks := tk' }) :
    wpAny (model prog w) A (call (.ref 84) [.ref nl, .ref lg]) Q E s := by
  have ff : PySem.Challenge.rw_kl0226_01 = PySem.Challenge.rw_kl0226_01 ∧ hd.heap_39 = hd.heap_39 := by
    k_fill
    exact ⟨rfl, rfl⟩
  clear ff
  obtain ⟨hd, dp, fr, gd, un⟩ := A
  cases hst
  dsimp only at hA hroom hun
  subst hA
  have X₀ := b.X.keeps hB
  obtain ⟨its, nn, hlo, hit⟩ := hlog
  have hl72 : lg ≠ 72 := fun q => by rw [q, hT] at hlo; cases congrArg Obj.data (Option.some.inj hlo)
  have hop : Open B outer s.heap [(lg, listOf its nn), (72, tabObj #[])] := fun p hp => by
    rcases List.mem_cons.mp hp with rfl | hp
    · exact ⟨hlo, hlg⟩
    · cases List.mem_singleton.mp hp
      exact ⟨hT, hP⟩
  refine' enter_k (B := B) (binds := [(Str.ofString "nodes", .ref nl), (Str.ofString "log", .ref lg)]) [(lg, listOf its nn), (72, tabObj #[])] rfl hB hff hop b.T.nolimit ?k1 ?k2 ?k3 ?k4 ?k5 ?k6 ?_ ?k7 ?k8 ?k9 ?k10
  case k1 => exact X₀ _ _ (by k_is)
  case k2 => exact rfl
  case k3 => exact codeRec_of X₀ (by k_is)
  case k4 => exact Nat.lt_of_le_of_lt (Nat.le_add_right _ _) hroom
  case k5 => exact BindsTo.of_eq rfl
  case k6 => exact locs rfl
  case k7 => decide
  case k8 => exact rfl
  case k9 => exact rfl
  case k10 => exact rfl
  intro g L h₁ hg hL F N Bw
  have tame : ∀ h' its' n', h'.get? lg = some (listOf its' n') → Tame s.heap h' [(lg, listOf its nn), (72, tabObj #[])] := fun h' its' n' q p hp => by
    rcases List.mem_cons.mp hp with rfl | hp
    · exact (Tame.list (h₀ := s.heap) q) _ (List.mem_singleton_self _)
    · cases List.mem_singleton.mp hp
      refine ⟨fun q => ?_, fun z => absurd rfl (z _)⟩
      rcases q with q | q | q <;> cases q
  have X' := b.X.keeps Bw.stays
  have T' := b.T.keeps Bw.stays
  have hsz : its.size ≤ sizeLine := its_fit hit (by omega)
  have hX1 : ∀ z ∈ [(lg, listOf its nn), (72, tabObj #[])].map (·.1), ∀ o, s.heap.get? z = some o → o.cls ≠ .type "tuple" := fun z hz o q => by
    rcases List.mem_cons.mp hz with rfl | hz
    · rw [hlo] at q; cases q
      exact fun z => absurd (Value.type.inj z) (by decide)
    · cases List.mem_singleton.mp hz
      rw [hT] at q; cases q
      exact fun z => by cases z
  have hnlX : nl ∉ [(lg, listOf its nn), (72, tabObj #[])].map (·.1) := fun hz => by
    rcases List.mem_cons.mp hz with hz | hz
    · exact hnl hz
    · have hz' := List.mem_singleton.mp hz
      obtain ⟨its9, ⟨o9, h9, c9, n9, d9⟩, _⟩ := hN
      rw [hz', hT] at h9
      cases h9
      cases d9
  have hN' : NodesIs g nl nd len := hg ▸ hN.ground hnlX hX1
  change wpAny _ _ _ _ _ _
  k_fold
  repeat' (first | ((with_reducible show wpAny _ _ (call (Value.ref 77) _) _ _ _); refine hold_call ?_) | (k_unfold; (try dsimp only)) | (k_end; wrow_close) | walk1 | (dsimp only; walk1) | (leave1; try dsimp only) | fail "no step")
  refine held (wpAny_Try_except ?_)
  change wpAny _ _ _ _ _ _
  try k_fold
  repeat' (first | ((with_reducible show wpAny _ _ (call (Value.ref 77) _) _ _ _); refine hold_call ?_) | (k_unfold; (try dsimp only)) | (k_end; wrow_close) | walk1 | (dsimp only; walk1) | (leave1; try dsimp only) | fail "no step")
  refine held ?_
  refine do0_spec b hok hlen hjl he0 (fun i _ h => all_ok b hok hlen len i (by omega) h) (j := 0) rfl (fun b o q => F.keep _ _ (Bw.stays b o q)) (pushX Bw F rfl rfl).frames ⟨hlg.1, news_fs Bw N rfl (List.Mem.head _)⟩ ⟨hP.1, news_fs Bw N rfl (List.Mem.tail _ (List.Mem.head _))⟩ rfl ?_ ?_ (hN'.fr F) hnl (N _ (List.Mem.tail _ (List.Mem.head _))).1 (log_at hit hg hX1 F (N _ (List.Mem.head _)).1) hes ?_ ?_
  · k_room
  · k_room
  · intro h0 h' tk' k' l' tab'
    obtain ⟨g₂, t1, F₂, Bw₂, np₂, _⟩ := back Bw F N rfl (X := [lg, 72]) (fun z hz => hz) k'
    obtain ⟨its2, n2, q2, _⟩ := id l'
    have N₂ : News g₂ L h' [] := fun z hz => nomatch hz
    have X₂ := b.X.keeps Bw₂.stays
    have T₂ := b.T.keeps Bw₂.stays
    have fin := fun tk t => ret h' tk t (exitR_k hop hg t1 F₂ (tame _ _ _ q2)) l' tab'
    rw [h0] at fin
    clear F N X' T'
    change wpAny _ _ _ _ _ _
    try k_fold
    repeat' (first | ((with_reducible show wpAny _ _ (call (Value.ref 77) _) _ _ _); refine hold_call ?_) | (k_unfold; (try dsimp only)) | (k_end; wrow_close) | walk1 | (dsimp only; walk1) | (leave1; try dsimp only) | fail "no step")
    exact fin _ _
  · intro h0 h' tk' e R l' tab'
    obtain ⟨c1, c2, c3, c4, c5, tq⟩ := tab'
    obtain ⟨g₂, t1, F₂, Bw₂, np₂, _⟩ := back Bw F N rfl (X := [lg, 72]) (fun z hz => hz) R.keeps
    obtain ⟨x₂, n₂, hx₂, hc₂⟩ := R.exc
    have ie : IsExc (prot g outer) h' e _ x₂ := hx₂.base (old_mono (.refl _) F rfl (fun z hz => by
      rcases List.mem_cons.mp hz with rfl | hz
      · exact (N _ (List.Mem.head _)).2.2
      · cases List.mem_singleton.mp hz
        exact (N _ (List.Mem.tail _ (List.Mem.head _))).2.2))
    have hEx : ExC (.type (excOf (out nd len 0))) := by obtain ⟨_, _, _, _, _, q, _⟩ := ie; exact q
    have rng := out_range hok len 0 (by omega) hjl
    have N₂ : News g₂ L h' [] := fun z hz => nomatch hz
    clear X' T'
    refine noteFrame_k (B := prot g outer) rfl (prot_push t1 F₂ Bw₂ rfl rfl).2 rfl (prot_stays t1 F₂) ie fun h₃ p₃ tb₃ => ?_
    refine setFlight_s p₃ fun h₄ p₄ => ?_
    have st₄ := p₄.mv.base (prot_stays t1 F₂)
    have hB' : B.StaysIn h₄ := fun b o e => st₄ b o (prot_get (Bw.stays b o e) (base_fs Bw e))
    have XB := b.X.keeps hB'
    have TB := b.T.keeps hB'
    have hTy : ∀ tks, ({ s with heap := h₄, toks := tks } : Shared).TypeIs (.ref e) (excOf (out nd len 0)) := fun tks => by obtain ⟨o, _, _, q1, q2, _⟩ := p₄.exc; exact ⟨o, q1, q2⟩
    refine wpAny_handleBy_builtin (X := excOf (out nd len 0)) (T := "SystemExit") (b := decide (excOf (out nd len 0) = "SystemExit")) SE.subExc notTuple_SE (sub_SE _ hEx) (wpAny_mono (nameB (Q := fun v s₂ => v = .type "SystemExit" ∧ s₂ = { s with heap := h₄, toks := tk' }) XB TB (by k_is) (by boot_by_name) (by decide) ⟨rfl, rfl⟩) (fun v s₂ q => ?_) fun _ _ q => q)
    obtain ⟨rfl, rfl⟩ := q
    refine ⟨rfl, hTy _, ?_⟩
    by_cases hS : excOf (out nd len 0) = "SystemExit"
    · rw [if_pos (by simpa using hS)]
      refine setFlight_s p₄ fun h₅ p₅ => ?_
      have hk : out nd len 0 = 1 := excOf_se.mp hS
      obtain ⟨g₅, t5, F₅, Bw₅, np₅, _⟩ := backM Bw₂ F₂ N₂ rfl (p₅.mv.prot t1 np₂)
      have N₅ : News g₅ L h₅ [] := fun z hz => nomatch hz
      have X₅ := b.X.keeps Bw₅.stays
      have T₅ := b.T.keeps Bw₅.stays
      have l₅ := l'.moves p₅.mv (news_fs Bw N rfl (List.Mem.head _))
      obtain ⟨its5, n5, q5, _⟩ := id l₅
      have fin := fun tk t => ret h₅ tk t (exitR_k hop hg (t1.trans t5) F₅ (tame _ _ _ q5)) l₅ ⟨c1, c2, c3, c4, c5, p₅.mv.obj _ _ tq (news_fs Bw N rfl (List.Mem.tail _ (List.Mem.head _))) sta_tab⟩
      rw [hk] at fin
      clear F₂ N₂
      change wpAny _ _ _ _ _ _
      try k_fold
      repeat' (first | ((with_reducible show wpAny _ _ (call (Value.ref 77) _) _ _ _); refine hold_call ?_) | (k_unfold; (try dsimp only)) | (k_end; wrow_close) | walk1 | (dsimp only; walk1) | (leave1; try dsimp only) | fail "no step")
      exact fin _ _
    · rw [if_neg (by simpa using hS)]
      refine wpAny_handleBy_builtin (X := excOf (out nd len 0)) (T := "KeyError") (b := decide (excOf (out nd len 0) = "KeyError")) ok_KeyError.base notTuple_KE (sub_KE _ hEx) (wpAny_mono (nameB (Q := fun v s₂ => v = .type "KeyError" ∧ s₂ = { s with heap := h₄, toks := tk' }) XB TB (by k_is) (by boot_by_name) (by decide) ⟨rfl, rfl⟩) (fun v s₂ q => ?_) fun _ _ q => q)
      obtain ⟨rfl, rfl⟩ := q
      refine ⟨rfl, hTy _, ?_⟩
      by_cases hK : excOf (out nd len 0) = "KeyError"
      · rw [if_pos (by simpa using hK)]
        refine setFlight_s p₄ fun h₅ p₅ => ?_
        have hk : out nd len 0 = 2 := excOf_ke hK
        obtain ⟨g₅, t5, F₅, Bw₅, np₅, _⟩ := backM Bw₂ F₂ N₂ rfl (p₅.mv.prot t1 np₂)
        have N₅ : News g₅ L h₅ [] := fun z hz => nomatch hz
        have X₅ := b.X.keeps Bw₅.stays
        have T₅ := b.T.keeps Bw₅.stays
        have l₅ := l'.moves p₅.mv (news_fs Bw N rfl (List.Mem.head _))
        obtain ⟨its5, n5, q5, _⟩ := id l₅
        have fin := fun tk t => ret h₅ tk t (exitR_k hop hg (t1.trans t5) F₅ (tame _ _ _ q5)) l₅ ⟨c1, c2, c3, c4, c5, p₅.mv.obj _ _ tq (news_fs Bw N rfl (List.Mem.tail _ (List.Mem.head _))) sta_tab⟩
        rw [hk] at fin
        clear F₂ N₂
        change wpAny _ _ _ _ _ _
        try k_fold
        repeat' (first | ((with_reducible show wpAny _ _ (call (Value.ref 77) _) _ _ _); refine hold_call ?_) | (k_unfold; (try dsimp only)) | (k_end; wrow_close) | walk1 | (dsimp only; walk1) | (leave1; try dsimp only) | fail "no step")
        exact fin _ _
      · rw [if_neg (by simpa using hK)]
        have n1 : out nd len 0 ≠ 1 := fun z => hS (excOf_se.mpr z)
        have n2 : out nd len 0 ≠ 2 := fun z => hK (by rw [z]; rfl)
        have hV : excOf (out nd len 0) = "ValueError" := by unfold excOf; rw [if_neg n1, if_neg n2]
        refine wpAny_handleBy_builtin (X := excOf (out nd len 0)) (T := "ValueError") (b := decide (excOf (out nd len 0) = "ValueError")) ok_ValueError.base notTuple_VE (sub_VE _ hEx) (wpAny_mono (nameB (Q := fun v s₂ => v = .type "ValueError" ∧ s₂ = { s with heap := h₄, toks := tk' }) XB TB (by k_is) (by boot_by_name) (by decide) ⟨rfl, rfl⟩) (fun v s₂ q => ?_) fun _ _ q => q)
        obtain ⟨rfl, rfl⟩ := q
        refine ⟨rfl, hTy _, ?_⟩
        rw [if_pos (by simpa using hV)]
        refine setFlight_s p₄ fun h₅ p₅ => ?_
        have hk : out nd len 0 = 3 := (by omega)
        obtain ⟨g₅, t5, F₅, Bw₅, np₅, _⟩ := backM Bw₂ F₂ N₂ rfl (p₅.mv.prot t1 np₂)
        have N₅ : News g₅ L h₅ [] := fun z hz => nomatch hz
        have X₅ := b.X.keeps Bw₅.stays
        have T₅ := b.T.keeps Bw₅.stays
        have l₅ := l'.moves p₅.mv (news_fs Bw N rfl (List.Mem.head _))
        obtain ⟨its5, n5, q5, _⟩ := id l₅
        have fin := fun tk t => ret h₅ tk t (exitR_k hop hg (t1.trans t5) F₅ (tame _ _ _ q5)) l₅ ⟨c1, c2, c3, c4, c5, p₅.mv.obj _ _ tq (news_fs Bw N rfl (List.Mem.tail _ (List.Mem.head _))) sta_tab⟩
        rw [hk] at fin
        clear F₂ N₂
        change wpAny _ _ _ _ _ _
        try k_fold
        repeat' (first | ((with_reducible show wpAny _ _ (call (Value.ref 77) _) _ _ _); refine hold_call ?_) | (k_unfold; (try dsimp only)) | (k_end; wrow_close) | walk1 | (dsimp only; walk1) | (leave1; try dsimp only) | fail "no step")
        exact fin _ _
end
end

/-! F17 -/
section
variable {prog : Program} {w : World} {A A₀ : Around} {outer : List Env} {s : Shared} {E : Value → Shared → Prop} {Q : Value → Shared → Prop} {g B : Heap} {L : Addr} {m : Str → Option Value} {news : List (Addr × Obj)}
theorem iadd_lists {l b : Addr} {its its2 : Array Value} {n n2 : Nat} (ha : s.heap.get? l = some (listOf its n)) (hb : s.heap.get? b = some (listOf its2 n2)) (hz : its.size + its2.size ≤ sizeLine)
    (h : Q (.ref l) { s with heap := s.heap.update l (Obj.mapSeq fun x => x ++ its2) }) : wpAny (model prog w) A (inplaceOp .Add (.ref l) (.ref b)) Q E s := by
  have hTa : s.TypeIs (.ref l) "list" := ⟨_, ha, rfl⟩
  have hTb : s.TypeIs (.ref b) "list" := ⟨_, hb, rfl⟩
  have hq : isSeqSlot (some (.builtin "list.__iadd__")) = true := by decide +kernel
  unfold inplaceOp
  refine wpAny_holding ?_
  have hfi : fillsInplaceSlot (.type "list") "add" (Operator.Add == .Add) = pure false := by
    unfold fillsInplaceSlot
    show (typeLookup (.type "list") (dunderI "add") >>= fun fi => pure (fi.isSome && !isSeqSlot fi)) = pure false
    rw [PySem.F.slot_list_iadd.lookup, pure_bind, hq]; rfl
  refine wpAny_bind (wpAny_typeOf hTa (wpAny_bind (wpAny_of_eq hfi ?_)))
  show wpAny _ A (if false = true then _ else _) Q E s
  rw [if_neg Bool.false_ne_true]
  refine wpAny_bind (wpAny_binaryOp1_none (nm := "add") hTa hTb noFill_list_add ?_)
  refine wpAny_bind (wpAny_of_eq (PySem.seqSlot_of PySem.F.slot_list_iadd.lookup hq) ?_)
  refine wpAny_bind (wpAny_rule (call_meets PySem.F.slot_list_iadd ⟨_, ha, rfl⟩ PySem.F.entry_list_iadd (PySem.F.args_list_iadd_2 _ _) (PySem.AutoSeq1.list___iadd___list_list_0 l its n b its2 n2 (extend_door hz) (by omega) (by omega)) ⟨ha, hb, ?_⟩))
  first
    | exact wpAny_pure h
    | exact h
def OutsIs (h : Heap) (ou : Addr) (len : Nat) (u : Nat → Int) : Prop := ∃ its, h.IsList ou its ∧ its.size = len ∧ ∀ i, i < len → ∃ t, its[i]? = some (.int (u i) t)
theorem OutsIs.fr {h : Heap} {ou : Addr} {len : Nat} {u : Nat → Int} (F : Fr g L h m) : OutsIs g ou len u → OutsIs h ou len u := fun ⟨its, ⟨o, ho, r⟩, z⟩ => ⟨its, ⟨o, F.keep _ _ ho, r⟩, z⟩
theorem OutsIs.keep {h h' : Heap} {ou : Addr} {len : Nat} {u : Nat → Int} (k : ∀ b o, h.get? b = some o → h'.get? b = some o) : OutsIs h ou len u → OutsIs h' ou len u := fun ⟨its, ⟨o, ho, r⟩, z⟩ => ⟨its, ⟨o, k _ _ ho, r⟩, z⟩
theorem outs_item {value slice : Expr} {ou : Addr} {len : Nat} {uu : Nat → Int} {k : Int} {u : Tok} (F : Fr g L s.heap m) (N : OutsIs g ou len uu) (h0 : 0 ≤ k) (h1 : k < len) (hlen : len ≤ 100) (h : ∀ t, Q (.int (uu k.toNat) t) s)
    (hs : subscripted slice false (.ref ou) (.int k u) = operate [.ref ou, .int k u] (getItem (.ref ou) (.int k u)) := by with_unfolding_all rfl) :
    wpAny (model prog w) A (subscriptTail value slice (.ref ou) (.int k u)) Q E s := by
  obtain ⟨its, hl, hz, ha⟩ := N
  obtain ⟨t, e⟩ := ha k.toNat (by omega)
  have hl' : s.heap.IsList ou its := let ⟨o, ho, r⟩ := hl; ⟨o, F.keep _ _ ho, r⟩
  exact tail_any hl'.typeIs slot_list_getitem.lookup (wpAny_getItem_list hl' h0 (by omega) e (h t)) hs
end
section
variable {prog : Program} {w : World} {A : Around} {E : Value → Shared → Prop} {s : Shared} {env : Env}
/-- a loop over a range; the frame's map is part of what holds -/
theorem range_loopM {R : Result → Shared → Prop} {x : Str} {px : Pos} {body : List Stmt} {it : Addr} {a : Int} {n : Nat} {c : Int} (J : Nat → (Str → Option Value) → Heap → Prop) (D : (Str → Option Value) → Heap → Prop)
    (hh : A.handled = none) (hx : env.kindOf x = some .local) (hp : (env.scope.kind == .class || (env.scope.kind == .module && env.locals != env.globals)) = false) (hIL : it ≠ env.locals)
    (h0 : ∃ m₀, J 0 m₀ s.heap) (hit : IsRangeIter s.heap it a n c)
    (hJ : ∀ i m h h', J i m h → (∃ o vs, h.get? it = some o ∧ o.data = .fields vs ∧ o.cls = .type "range_iterator") → Heap.ExtBut it h h' → J i m h') (hns : ∀ i m h, J i m h → h.Ns env.locals m)
    (step : ∀ i tk h m s₁, i < n → J i m h → IsRangeIter h it (a + (i : Nat) * c + c) ((n : Int) - (i : Nat) - 1) c → s₁.heap.Ns env.locals (fun y => if y = x then some (.int (a + (i : Nat) * c) tk) else m y) → Heap.SameBut env.locals h s₁.heap →
      (∃ h₁ t₁, s₁ = { s with heap := h₁, toks := t₁ }) →
      wpAny (model prog w) A (execs body env) (fun f s₂ => match f with
        | .ret v => R (.ok (.ret v)) s₂
        | .brk => Held ((∃ h₁ t₁, s₂ = { s with heap := h₁, toks := t₁ }) ∧ ∃ m₂, D m₂ s₂.heap)
        | _ => Held ((∃ h₁ t₁, s₂ = { s with heap := h₁, toks := t₁ }) ∧ IsRangeIter s₂.heap it (a + (i : Nat) * c + c) ((n : Int) - (i : Nat) - 1) c ∧ ∃ m₂, J (i + 1) m₂ s₂.heap)) (notedBy (model prog w) A env fun e s' => R (.error e) s') s₁)
    (hD : ∀ m h, J n m h → D m h) (hR : ∀ h' tk m', D m' h' → R (.ok .next) { s with heap := h', toks := tk }) :
    codeAny (model prog w) A (.forLoop (.Name x px) (.ref it) body [] env) R s := by
  obtain ⟨m₀, h0⟩ := h0
  refine codeAny_forLoop (fun k s' => ∃ h' tk i m', s' = { s with heap := h', toks := tk } ∧ IsRangeIter h' it (a + (i : Nat) * c) ((n : Int) - (i : Nat)) c ∧ J i m' h' ∧ i ≤ n ∧ k = n + 1 - i) ?_ (n + 1) ⟨s.heap, s.toks, 0, m₀, rfl, by simpa using hit, h0, Nat.zero_le _, rfl⟩
  rintro k s' ⟨h', tk, i, m', rfl, hit', hJ', hi, rfl⟩
  by_cases hlt : i < n
  · refine wpAny_pyNext_range_item hit' (by omega) fun h₁ hit₁ hs₁ => ?_
    have J₁ := hJ i m' h' h₁ hJ' ⟨_, _, hit', rfl, rfl⟩ hs₁.extBut
    refine wpAny_assign_Name (wpAny_storeName_local hx (hns i m' h₁ J₁) (fun h₂ hn₂ hs₂ => ?_) hp)
    have e1 : a + ((i + 1 : Nat) : Int) * c = a + (i : Int) * c + c := by push_cast; rw [Int.add_mul, Int.one_mul, Int.add_assoc]
    have e2 : (n : Int) - ((i + 1 : Nat) : Int) = (n : Int) - (i : Int) - 1 := by push_cast; omega
    refine wpAny_mono (step i _ h₁ m' _ hlt J₁ hit₁ hn₂ hs₂ ⟨_, _, rfl⟩) (fun f s₃ h₃ => ?_) fun _ _ e => e
    cases f with
    | ret v => exact h₃
    | brk =>
      obtain ⟨⟨h₃', tk₃, rfl⟩, m₃, hD₃⟩ := h₃
      exact hR _ _ m₃ hD₃
    | next =>
      obtain ⟨⟨h₃', tk₃, rfl⟩, hit₃, m₃, hJ₃⟩ := h₃
      exact ⟨n + 1 - (i + 1), ar_7 hlt, h₃', tk₃, i + 1, m₃, rfl, by rw [e1, e2]; exact hit₃, hJ₃, hlt, rfl⟩
    | cont =>
      obtain ⟨⟨h₃', tk₃, rfl⟩, hit₃, m₃, hJ₃⟩ := h₃
      exact ⟨n + 1 - (i + 1), ar_7 hlt, h₃', tk₃, i + 1, m₃, rfl, by rw [e1, e2]; exact hit₃, hJ₃, hlt, rfl⟩
  · have hin : i = n := by omega
    subst hin
    refine wpAny_pyNext_range_end hh hit' (by omega) fun h₁ he₁ => wpAny_execs_nil ?_
    exact hR h₁ tk m' (hD m' h₁ (hJ i m' h' h₁ hJ' ⟨_, _, hit', rfl, rfl⟩ he₁))
end
theorem ne_tup {h : Heap} {a b : Addr} {its its2 : Array Value} {n n2 : Nat} (ha : h.get? a = some { cls := .type "tuple", data := .seq its n }) (hb : h.get? b = some (listOf its2 n2)) : a ≠ b := fun q => by
  rw [q, hb] at ha
  exact absurd (Value.type.inj (congrArg Obj.cls (Option.some.inj ha))) (by decide)
theorem Ents.append {h : Heap} : ∀ {vs : List Value} {es : List Ent} {ws : List Value} {fs : List Ent}, Ents h vs es → Ents h ws fs → Ents h (vs ++ ws) (es ++ fs)
  | [], [], _, _, _, r => r
  | _ :: _, _ :: _, _, _, q, r => ⟨q.1, Ents.append q.2 r⟩
  | [], _ :: _, _, _, q, _ => q.elim
  | _ :: _, [], _, _, q, _ => q.elim
/-- what holds between two turns of the loop in _law_told: the rest that is still to come, and the whole -/
def TellI (g : Heap) (L tl nl ou : Addr) (j : Int) (tj : Tok) (x₀ : Value) (rest all : List Ent) (m : Str → Option Value) (h : Heap) : Prop :=
  ∃ es', Fr g L h m ∧ m (Str.ofString "told") = some (.ref tl) ∧ m (Str.ofString "number") = some (.int j tj) ∧ m (Str.ofString "nodes") = some (.ref nl) ∧ m (Str.ofString "outs") = some (.ref ou) ∧ m (Str.ofString "place") = some x₀ ∧
    (tl ≠ L ∧ g.get? tl = none) ∧ LogIs h tl es' ∧ es' ++ rest = all
theorem told_all {nd : Nat → Nd} {len j : Nat} (h : j < len) (he : (nd j).early = 0) : told nd len j = ([⟨0, j, .str (Str.ofString "")⟩, ⟨1, j, .str (textOf j)⟩] ++ kidsTold nd (out nd len) (told nd len) j (len - (j + 1)) (j + 1)) ++ shownOf (nd j) j :: (if out nd len j ≠ 0 then [] else [⟨4, j, .none⟩]) := by
  rw [told_step h, out_step h]
  unfold stepTold
  rw [if_neg (fun q => q he)]
  rfl
/-- what is shown of a call of _law_told -/
def TellOk (prog : Program) (w : World) (B : Heap) (nd : Nat → Nd) (len j : Nat) : Prop :=
  ∀ {A : Around} {outer : List Env} {s : Shared} {Q E : Value → Shared → Prop} {nl ou : Addr} {tj : Tok}, A.frames = some outer → B.StaysIn s.heap → s.heap.FunFrames B outer → A.handled = none →
    A.depth + (20 * (len - j) + 20) < recursionLimit → A.units + (100 * (len - j) + 200) < cLine → NodesIs s.heap nl nd len → OutsIs s.heap ou len (out nd len) → (told nd len j).length ≤ 100000 →
    (∀ h' tk' t, (∀ b o, s.heap.get? b = some o → h'.get? b = some o) → s.heap.get? t = none → LogIs h' t (told nd len j) → Q (.ref t) { s with heap := h', toks := tk' }) →
    wpAny (model prog w) A (call (.ref 96) [.int j tj, .ref nl, .ref ou]) Q E s

/-! F18 -/

section
variable {prog : Program} {w : World} {p : Program} {loose : List Str} {mean : ExcName → Option Value} {mg mb : Str → Option Value} {B : Heap} {nd : Nat → Nd} {len j : Nat}
theorem ar_9 {a b c d t e : Nat} (h : t = d + e) (q : a + (b + c) = d) (ht : t ≤ 100000) : b ≤ 100000 := by omega
theorem ar_10 {a b c d t e x y : Nat} (h : t = d + e) (q : a + (b + c) = d) (ht : t ≤ 100000) (zx : x = a) (zy : y = b) : x + y ≤ sizeLine := by
  have hline : sizeLine = 16777216 := by decide
  omega
theorem ar_11 {d t e x : Nat} (h : t = d + e) (ht : t ≤ 100000) (zx : x = d) : x + 1 ≤ sizeLine := by
  have hline : sizeLine = 16777216 := by decide
  omega
theorem told_spec (b : Base w p loose mean mg mb B) (hok : ∀ i, i < len → (nd i).Ok) (hlen : len ≤ 100) (hjl : j < len) (ih : ∀ i, j < i → i < len → TellOk prog w B nd len i) : TellOk prog w B nd len j := by
  intro A outer s Q E nl ou tj hst hB hff hA hroom hun hN hO hes ret
  have ff : PySem.Challenge.rw_kl0226_01 = PySem.Challenge.rw_kl0226_01 ∧ hd.heap_39 = hd.heap_39 := by
    k_fill
    exact ⟨rfl, rfl⟩
  clear ff
  obtain ⟨hd, dp, fr, gd, un⟩ := A
  cases hst
  dsimp only at hA hroom hun
  subst hA
  have X₀ := b.X.keeps hB
  have hop : Open B outer s.heap [] := fun _ h => nomatch h
  refine' enter_k (B := B) (binds := [(Str.ofString "number", .int j tj), (Str.ofString "nodes", .ref nl), (Str.ofString "outs", .ref ou)]) [] rfl hB hff hop b.T.nolimit ?k1 ?k2 ?k3 ?k4 ?k5 ?k6 ?_ ?k7 ?k8 ?k9 ?k10
  case k1 => exact X₀ _ _ (by k_is)
  case k2 => exact rfl
  case k3 => exact codeRec_of X₀ (by k_is)
  case k4 => exact Nat.lt_of_le_of_lt (Nat.le_add_right _ _) hroom
  case k5 => exact BindsTo.of_eq rfl
  case k6 => exact locs rfl
  case k7 => decide
  case k8 => exact rfl
  case k9 => exact rfl
  case k10 => exact rfl
  intro g L h₁ hg hL F N Bw
  have X' := b.X.keeps Bw.stays
  have T' := b.T.keeps Bw.stays
  have hg' : ∀ b o, s.heap.get? b = some o → g.get? b = some o := fun b o q => hg ▸ q
  have hN' : NodesIs g nl nd len := hN.imp fun b o ho _ _ => ⟨o.slots, hg' b o ho⟩
  have hO' : OutsIs g ou len (out nd len) := hO.keep hg'
  have okj := hok j hjl
  change wpAny _ _ _ _ _ _
  k_fold
  have nb : ∀ b, g.get? b = none → s.heap.get? b = none := fun b q => by
    cases e : s.heap.get? b with
    | none => rfl
    | some o => rw [hg' b o e] at q; cases q
  repeat' (first | ((with_reducible show wpAny _ _ (inplaceOp Operator.Add (Value.ref _) (Value.ref _)) _ _ _); refine held_out ?_) | ((with_reducible show wpAny _ _ (call (Value.builtin "list.append") _) _ _ _); first | ((k_dflt (refine' append_K ?q9k1 ?q9k2 ?q9k3 ?_ ?q9z; (case q9k1 => k_asm); (case q9k2 => k_asm); (case q9k3 => k_upd); (case q9z => size_fits); k_whole)); intro _ _ _; (try k_sweep)) | refine held_out ?_) | ((with_reducible show wpAny _ _ (eval (Expr.Name _ _) _) _ _ _); k_dflt (refine' nameX_L ?q9F ?q9v ?_ ?q9a ?q9b; (case q9F => k_asm); (case q9a => rfl); (case q9b => rfl); (case q9v => assumption); k_whole)) | ((with_reducible show wpAny _ _ (call (Value.ref 96) _) _ _ _); refine hold_call ?_) | ((with_reducible show wpAny _ _ (subscriptTail _ _ (Value.ref _) (Value.int _ _)) _ _ _); k_dflt (refine' outs_item ?q9F ?q9N ?q9k0 ?q9k1 ?q9l ?_ ?q9hs; (case q9F => k_asm); (case q9N => assumption); (case q9k0 => first | exact Int.natCast_nonneg _ | with_reducible assumption | omega); (case q9k1 => first | exact Int.ofNat_lt.mpr (by with_reducible assumption) | with_reducible assumption | omega); (case q9l => assumption); (case q9hs => with_unfolding_all rfl); k_whole); intro _) | ((with_reducible show wpAny _ _ (assign (Expr.Tuple _ _ _) _ (Value.ref _)) _ _ _); k_dflt (refine' nd_unpack ?q9F ?q9N ?q9D ?q9k1 ?q9k2 ?q9k3 ?_; (case q9F => k_asm); (case q9N => k_asm); (case q9D => assumption); (case q9k1 => exact rfl); (case q9k2 => exact rfl); (case q9k3 => exact rfl)); intro _ _ _ _ _ _ _ _ _ _) | ((with_reducible show wpAny _ _ (call (Value.type "range") _) _ _ _); k_dflt (refine' range_K ?q9F ?q9N ?_; (case q9F => k_asm); (case q9N => k_asm); k_whole); intro _ _ _ _ _ _) | ((with_reducible show wpAny _ _ (call (Value.builtin "len") _) _ _ _); k_dflt (refine' nodes_len ?q9F ?q9N ?q9l ?_; (case q9F => k_asm); (case q9N => assumption); (case q9l => assumption); k_whole)) | ((with_reducible show wpAny _ _ (exec (Stmt.For _ _ _ _ _) _) _ _ _); refine hold_For ?_) | ((with_reducible show wpAny _ _ (subscriptTail _ _ (Value.ref _) (Value.int 0 _)) _ _ _); k_dflt (refine' nd_item ?q9F ?q9N ?_ ?q9hs; (case q9F => k_asm); (case q9N => assumption); (case q9hs => with_unfolding_all rfl); k_whole); intro _) | ((with_reducible show wpAny _ _ (subscriptTail _ _ (Value.ref _) (Value.int _ _)) _ _ _); k_dflt (refine' nodes_item ?q9F ?q9N ?q9k0 ?q9k1 ?q9l ?_ ?q9hs; (case q9F => k_asm); (case q9N => assumption); (case q9k0 => first | exact Int.natCast_nonneg _ | with_reducible assumption | omega); (case q9k1 => first | exact Int.ofNat_lt.mpr (by with_reducible assumption) | with_reducible assumption | omega); (case q9l => assumption); (case q9hs => with_unfolding_all rfl); k_whole); intro _ _) | (k_unfold; (try dsimp only)) | (k_end; wrow_close) | walk1 | (dsimp only; walk1) | (leave1; try dsimp only) | fail "no step")
  · rename_i tl hhA ltA hhB F₁ N₁ hE
    obtain ⟨_, tt⟩ := told_early hjl hE
    refine ret _ _ tl (fun b o q => F₁.keep b o (hg' b o q)) (nb _ (N₁ _ (List.Mem.head _)).2.2) ?_
    rw [tt]
    exact ⟨_, _, (N₁ _ (List.Mem.head _)).1, ⟨⟨_, _, _, _, _, _, rfl, (N₁ _ (List.Mem.tail _ (List.Mem.head _))).1, rfl, rfl, ⟨_, rfl⟩⟩, trivial⟩⟩
  · rename_i t1t t2t t3t x₀ t5t t6t hA xi hB1 hB2 hB3 hB4 hB5 hB6 D1 hC1 ltA tl hC2 ltB hC3 tks hE ts kk hs D2 hh2 lt2 h₂ F₂ N₂
    have hE' : (nd j).early = 0 := hE
    have hx₀ : (nd j).place.Is x₀ := xi
    refine held (For_range ?_)
    change wpAny _ _ _ _ _ _
    try k_fold
    repeat' (first | ((with_reducible show wpAny _ _ (inplaceOp Operator.Add (Value.ref _) (Value.ref _)) _ _ _); refine held_out ?_) | ((with_reducible show wpAny _ _ (call (Value.builtin "list.append") _) _ _ _); first | ((k_dflt (refine' append_K ?q9k1 ?q9k2 ?q9k3 ?_ ?q9z; (case q9k1 => k_asm); (case q9k2 => k_asm); (case q9k3 => k_upd); (case q9z => size_fits); k_whole)); intro _ _ _; (try k_sweep)) | refine held_out ?_) | ((with_reducible show wpAny _ _ (eval (Expr.Name _ _) _) _ _ _); k_dflt (refine' nameX_L ?q9F ?q9v ?_ ?q9a ?q9b; (case q9F => k_asm); (case q9a => rfl); (case q9b => rfl); (case q9v => assumption); k_whole)) | ((with_reducible show wpAny _ _ (call (Value.ref 96) _) _ _ _); refine hold_call ?_) | ((with_reducible show wpAny _ _ (subscriptTail _ _ (Value.ref _) (Value.int _ _)) _ _ _); k_dflt (refine' outs_item ?q9F ?q9N ?q9k0 ?q9k1 ?q9l ?_ ?q9hs; (case q9F => k_asm); (case q9N => assumption); (case q9k0 => first | exact Int.natCast_nonneg _ | with_reducible assumption | omega); (case q9k1 => first | exact Int.ofNat_lt.mpr (by with_reducible assumption) | with_reducible assumption | omega); (case q9l => assumption); (case q9hs => with_unfolding_all rfl); k_whole); intro _) | ((with_reducible show wpAny _ _ (assign (Expr.Tuple _ _ _) _ (Value.ref _)) _ _ _); k_dflt (refine' nd_unpack ?q9F ?q9N ?q9D ?q9k1 ?q9k2 ?q9k3 ?_; (case q9F => k_asm); (case q9N => k_asm); (case q9D => assumption); (case q9k1 => exact rfl); (case q9k2 => exact rfl); (case q9k3 => exact rfl)); intro _ _ _ _ _ _ _ _ _ _) | ((with_reducible show wpAny _ _ (call (Value.type "range") _) _ _ _); k_dflt (refine' range_K ?q9F ?q9N ?_; (case q9F => k_asm); (case q9N => k_asm); k_whole); intro _ _ _ _ _ _) | ((with_reducible show wpAny _ _ (call (Value.builtin "len") _) _ _ _); k_dflt (refine' nodes_len ?q9F ?q9N ?q9l ?_; (case q9F => k_asm); (case q9N => assumption); (case q9l => assumption); k_whole)) | ((with_reducible show wpAny _ _ (exec (Stmt.For _ _ _ _ _) _) _ _ _); refine hold_For ?_) | ((with_reducible show wpAny _ _ (subscriptTail _ _ (Value.ref _) (Value.int 0 _)) _ _ _); k_dflt (refine' nd_item ?q9F ?q9N ?_ ?q9hs; (case q9F => k_asm); (case q9N => assumption); (case q9hs => with_unfolding_all rfl); k_whole); intro _) | ((with_reducible show wpAny _ _ (subscriptTail _ _ (Value.ref _) (Value.int _ _)) _ _ _); k_dflt (refine' nodes_item ?q9F ?q9N ?q9k0 ?q9k1 ?q9l ?_ ?q9hs; (case q9F => k_asm); (case q9N => assumption); (case q9k0 => first | exact Int.natCast_nonneg _ | with_reducible assumption | omega); (case q9k1 => first | exact Int.ofNat_lt.mpr (by with_reducible assumption) | with_reducible assumption | omega); (case q9l => assumption); (case q9hs => with_unfolding_all rfl); k_whole); intro _ _) | (k_unfold; (try dsimp only)) | (k_end; wrow_close) | walk1 | (dsimp only; walk1) | (leave1; try dsimp only) | fail "no step")
    rename_i r v' h₃ tk₃ F₃ N₃
    have L₁ : LogIs h₃ tl ([⟨0, j, .str (Str.ofString "")⟩, ⟨1, j, .str (textOf j)⟩]) := ⟨_, _, (N₃ _ (List.Mem.tail _ (List.Mem.tail _ (List.Mem.head _)))).1,
      ⟨⟨_, _, _, _, _, _, rfl, (N₃ _ (List.Mem.tail _ (List.Mem.tail _ (List.Mem.tail _ (List.Mem.head _))))).1, rfl, rfl, ⟨_, rfl⟩⟩, ⟨⟨_, _, _, _, _, _, rfl, (N₃ _ (List.Mem.tail _ (List.Mem.head _))).1, rfl, rfl, ⟨_, rfl⟩⟩, trivial⟩⟩⟩
    have tl3 := (N₃ _ (List.Mem.tail _ (List.Mem.tail _ (List.Mem.head _)))).2
    dsimp only at tl3
    refine held ⟨r, _, _, _, _, _, rfl, (N₃ _ (List.Mem.head _)).1, kid_small hjl hlen, ?_⟩
    have hrs : Builtin.Range.rangeSize ((j : Int) + 1) (len : Int) 1 = ((len - (j + 1) : Nat) : Int) := kid_size j len
    rw [hrs]
    have hit0 : g.get? h₃.objs.size = none := Heap.get?_none_of_le (Nat.le_trans F₃.above (Nat.le_of_lt F₃.ns.lt))
    have hIL : h₃.objs.size ≠ L := Nat.ne_of_gt F₃.ns.lt
    have kp₃ : ∀ b o, h₃.get? b = some o → (h₃.push (iterObj ((j : Int) + 1) ((len - (j + 1) : Nat) : Int) 1)).get? b = some o := fun b o q => Heap.get?_push_of_some _ q
    refine range_loopM (n := len - (j + 1)) (a := (j : Int) + 1) (c := 1) (fun i m h => TellI g L tl nl ou (j : Int) tj x₀ (kidsTold nd (out nd len) (told nd len) j (len - (j + 1) - i) (j + 1 + i)) ([⟨0, j, .str (Str.ofString "")⟩, ⟨1, j, .str (textOf j)⟩] ++ kidsTold nd (out nd len) (told nd len) j (len - (j + 1)) (j + 1)) m h)
      (fun m h => TellI g L tl nl ou (j : Int) tj x₀ [] ([⟨0, j, .str (Str.ofString "")⟩, ⟨1, j, .str (textOf j)⟩] ++ kidsTold nd (out nd len) (told nd len) j (len - (j + 1)) (j + 1)) m h) rfl rfl rfl hIL ?h0 (Heap.get?_push_size _ rfl) ?hJ ?hns ?step ?hD ?hR
    case h0 => exact ⟨_, _, Fr.on F₃ kp₃, rfl, rfl, rfl, rfl, rfl, tl3, L₁.seq fun b o _ _ q _ => kp₃ b o q, rfl⟩
    case hJ =>
      rintro i m h h' ⟨es', F', q1, q2, q3, q4, q5, nt, L', eqT⟩ ⟨o, vs, o1, o2, o3⟩ hx'
      exact ⟨es', ⟨F'.ns.extBut hx' hIL.symm, fun b o e => hx' b o (fun q => by rw [q, hit0] at e; cases e) (F'.keep b o e), F'.above⟩, q1, q2, q3, q4, q5, nt, L'.seq fun b o' _ _ q q' => hx' b o' (fun z => by rw [z, o1] at q; cases q; rw [o2] at q'; cases q') q, eqT⟩
    case hns => exact fun i m h ⟨es', F', _⟩ => F'.ns
    case hD =>
      rintro m h ⟨es', F', q1, q2, q3, q4, q5, nt, L', eqT⟩
      rw [Nat.sub_self] at eqT
      exact ⟨es', F', q1, q2, q3, q4, q5, nt, L', eqT⟩
    case hR =>
      rintro h₄ tk₄ m ⟨es', F', q1, q2, q3, q4, q5, nt, L', eqT⟩
      rw [List.append_nil] at eqT
      subst eqT
      obtain ⟨its4, n4, l4, e4⟩ := id L'
      obtain ⟨tups, ht1, ht2⟩ := log_split F' l4 e4
      have N' : News g L h₄ ((tl, W.listOf its4 n4) :: tups) := fun z hz => by
        rcases List.mem_cons.mp hz with rfl | hz
        · exact ⟨l4, nt⟩
        · exact (ht1 _ hz).1
      clear F₂ F₃ N₂ N₃
      have hsz4 : its4.size ≤ sizeLine := its_fit e4 (by have := congrArg List.length (told_all hjl hE'); simp only [List.length_append, List.length_cons, List.length_nil] at this ⊢; omega)
      have hsz5 : its4.size + 1 ≤ sizeLine := by
        have h1 := e4.length
        have := congrArg List.length (told_all hjl hE')
        rw [Array.length_toList] at h1
        simp only [List.length_append, List.length_cons, List.length_nil] at this h1
        exact ar_11 this hes h1
      have hpl : (x₀ = .none ∧ (nd j).place = .none) ∨ ∃ y t, x₀ = .str y t ∧ (nd j).place = .str y := by
        rcases okj.place with q | ⟨y, q⟩
        · rw [q] at hx₀
          exact .inl ⟨hx₀, q⟩
        · rw [q] at hx₀
          obtain ⟨t, hx₀⟩ := hx₀
          exact .inr ⟨y, t, hx₀, q⟩
      rcases hpl with ⟨rfl, hp⟩ | ⟨y, t, rfl, hp⟩
      · have hsh : shownOf (nd j) j = ⟨2, j, .int ((j : Int) - 3)⟩ := by unfold shownOf; rw [hp]
        change wpAny _ _ _ _ _ _
        try k_fold
        repeat' (first | ((with_reducible show wpAny _ _ (inplaceOp Operator.Add (Value.ref _) (Value.ref _)) _ _ _); refine held_out ?_) | ((with_reducible show wpAny _ _ (call (Value.builtin "list.append") _) _ _ _); first | ((k_dflt (refine' append_K ?q9k1 ?q9k2 ?q9k3 ?_ ?q9z; (case q9k1 => k_asm); (case q9k2 => k_asm); (case q9k3 => k_upd); (case q9z => size_fits); k_whole)); intro _ _ _; (try k_sweep)) | refine held_out ?_) | ((with_reducible show wpAny _ _ (eval (Expr.Name _ _) _) _ _ _); k_dflt (refine' nameX_L ?q9F ?q9v ?_ ?q9a ?q9b; (case q9F => k_asm); (case q9a => rfl); (case q9b => rfl); (case q9v => assumption); k_whole)) | ((with_reducible show wpAny _ _ (call (Value.ref 96) _) _ _ _); refine hold_call ?_) | ((with_reducible show wpAny _ _ (subscriptTail _ _ (Value.ref _) (Value.int _ _)) _ _ _); k_dflt (refine' outs_item ?q9F ?q9N ?q9k0 ?q9k1 ?q9l ?_ ?q9hs; (case q9F => k_asm); (case q9N => assumption); (case q9k0 => first | exact Int.natCast_nonneg _ | with_reducible assumption | omega); (case q9k1 => first | exact Int.ofNat_lt.mpr (by with_reducible assumption) | with_reducible assumption | omega); (case q9l => assumption); (case q9hs => with_unfolding_all rfl); k_whole); intro _) | ((with_reducible show wpAny _ _ (assign (Expr.Tuple _ _ _) _ (Value.ref _)) _ _ _); k_dflt (refine' nd_unpack ?q9F ?q9N ?q9D ?q9k1 ?q9k2 ?q9k3 ?_; (case q9F => k_asm); (case q9N => k_asm); (case q9D => assumption); (case q9k1 => exact rfl); (case q9k2 => exact rfl); (case q9k3 => exact rfl)); intro _ _ _ _ _ _ _ _ _ _) | ((with_reducible show wpAny _ _ (call (Value.type "range") _) _ _ _); k_dflt (refine' range_K ?q9F ?q9N ?_; (case q9F => k_asm); (case q9N => k_asm); k_whole); intro _ _ _ _ _ _) | ((with_reducible show wpAny _ _ (call (Value.builtin "len") _) _ _ _); k_dflt (refine' nodes_len ?q9F ?q9N ?q9l ?_; (case q9F => k_asm); (case q9N => assumption); (case q9l => assumption); k_whole)) | ((with_reducible show wpAny _ _ (exec (Stmt.For _ _ _ _ _) _) _ _ _); refine hold_For ?_) | ((with_reducible show wpAny _ _ (subscriptTail _ _ (Value.ref _) (Value.int 0 _)) _ _ _); k_dflt (refine' nd_item ?q9F ?q9N ?_ ?q9hs; (case q9F => k_asm); (case q9N => assumption); (case q9hs => with_unfolding_all rfl); k_whole); intro _) | ((with_reducible show wpAny _ _ (subscriptTail _ _ (Value.ref _) (Value.int _ _)) _ _ _); k_dflt (refine' nodes_item ?q9F ?q9N ?q9k0 ?q9k1 ?q9l ?_ ?q9hs; (case q9F => k_asm); (case q9N => assumption); (case q9k0 => first | exact Int.natCast_nonneg _ | with_reducible assumption | omega); (case q9k1 => first | exact Int.ofNat_lt.mpr (by with_reducible assumption) | with_reducible assumption | omega); (case q9l => assumption); (case q9hs => with_unfolding_all rfl); k_whole); intro _ _) | (k_unfold; (try dsimp only)) | (k_end; wrow_close) | walk1 | (dsimp only; walk1) | (leave1; try dsimp only) | fail "no step")
        rename_i D5 h₅ F₅ N₅ lt5
        refine held (append_K F₅ N₅ (.tail (fun z => ?_) (.head fun p hp => (ht1 p hp).2)) (fun h₆ F₆ N₆ => ?_) hsz4)
        · exact ne_tup (N₅ _ (List.Mem.head _)).1 (N₅ _ (List.Mem.tail _ (List.Mem.head _))).1 z
        have e6 := Ents.snoc (e := ⟨2, j, .int ((j : Int) - 3)⟩) ⟨_, _, _, _, _, _, rfl, (N₆ _ (List.Mem.head _)).1, rfl, rfl, ⟨_, rfl⟩⟩ (ht2 h₆ F₆.keep fun p hp => (N₆ p (List.Mem.tail _ (List.Mem.tail _ hp))).1)
        have nt6 := (N₆ _ (List.Mem.head _)).2
        clear F₅ N₅
        change wpAny _ _ _ _ _ _
        try k_fold
        repeat' (first | ((with_reducible show wpAny _ _ (inplaceOp Operator.Add (Value.ref _) (Value.ref _)) _ _ _); refine held_out ?_) | ((with_reducible show wpAny _ _ (call (Value.builtin "list.append") _) _ _ _); first | ((k_dflt (refine' append_K ?q9k1 ?q9k2 ?q9k3 ?_ ?q9z; (case q9k1 => k_asm); (case q9k2 => k_asm); (case q9k3 => k_upd); (case q9z => size_fits); k_whole)); intro _ _ _; (try k_sweep)) | refine held_out ?_) | ((with_reducible show wpAny _ _ (eval (Expr.Name _ _) _) _ _ _); k_dflt (refine' nameX_L ?q9F ?q9v ?_ ?q9a ?q9b; (case q9F => k_asm); (case q9a => rfl); (case q9b => rfl); (case q9v => assumption); k_whole)) | ((with_reducible show wpAny _ _ (call (Value.ref 96) _) _ _ _); refine hold_call ?_) | ((with_reducible show wpAny _ _ (subscriptTail _ _ (Value.ref _) (Value.int _ _)) _ _ _); k_dflt (refine' outs_item ?q9F ?q9N ?q9k0 ?q9k1 ?q9l ?_ ?q9hs; (case q9F => k_asm); (case q9N => assumption); (case q9k0 => first | exact Int.natCast_nonneg _ | with_reducible assumption | omega); (case q9k1 => first | exact Int.ofNat_lt.mpr (by with_reducible assumption) | with_reducible assumption | omega); (case q9l => assumption); (case q9hs => with_unfolding_all rfl); k_whole); intro _) | ((with_reducible show wpAny _ _ (assign (Expr.Tuple _ _ _) _ (Value.ref _)) _ _ _); k_dflt (refine' nd_unpack ?q9F ?q9N ?q9D ?q9k1 ?q9k2 ?q9k3 ?_; (case q9F => k_asm); (case q9N => k_asm); (case q9D => assumption); (case q9k1 => exact rfl); (case q9k2 => exact rfl); (case q9k3 => exact rfl)); intro _ _ _ _ _ _ _ _ _ _) | ((with_reducible show wpAny _ _ (call (Value.type "range") _) _ _ _); k_dflt (refine' range_K ?q9F ?q9N ?_; (case q9F => k_asm); (case q9N => k_asm); k_whole); intro _ _ _ _ _ _) | ((with_reducible show wpAny _ _ (call (Value.builtin "len") _) _ _ _); k_dflt (refine' nodes_len ?q9F ?q9N ?q9l ?_; (case q9F => k_asm); (case q9N => assumption); (case q9l => assumption); k_whole)) | ((with_reducible show wpAny _ _ (exec (Stmt.For _ _ _ _ _) _) _ _ _); refine hold_For ?_) | ((with_reducible show wpAny _ _ (subscriptTail _ _ (Value.ref _) (Value.int 0 _)) _ _ _); k_dflt (refine' nd_item ?q9F ?q9N ?_ ?q9hs; (case q9F => k_asm); (case q9N => assumption); (case q9hs => with_unfolding_all rfl); k_whole); intro _) | ((with_reducible show wpAny _ _ (subscriptTail _ _ (Value.ref _) (Value.int _ _)) _ _ _); k_dflt (refine' nodes_item ?q9F ?q9N ?q9k0 ?q9k1 ?q9l ?_ ?q9hs; (case q9F => k_asm); (case q9N => assumption); (case q9k0 => first | exact Int.natCast_nonneg _ | with_reducible assumption | omega); (case q9k1 => first | exact Int.ofNat_lt.mpr (by with_reducible assumption) | with_reducible assumption | omega); (case q9l => assumption); (case q9hs => with_unfolding_all rfl); k_whole); intro _ _) | (k_unfold; (try dsimp only)) | (k_end; wrow_close) | walk1 | (dsimp only; walk1) | (leave1; try dsimp only) | fail "no step")
        · rename_i t9 ho9
          have ho : out nd len j ≠ 0 := ho9
          refine ret _ _ tl (fun b o q => F₆.keep b o (hg' b o q)) (nb _ nt.2) ?_
          rw [told_all hjl hE', if_pos ho, hsh]
          exact ⟨_, _, (N₆ _ (List.Mem.tail _ (List.Mem.head _))).1, by rw [Array.toList_push]; exact e6⟩
        · rename_i t9 ho9 D7 h₇ F₇ N₇ lt7
          have ho : out nd len j = 0 := ho9
          refine held (append_K F₇ N₇ (.tail (fun z => ?_) (.tail (fun z => ?_) (.head fun p hp => (ht1 p hp).2))) (fun h₈ F₈ N₈ => ?_) (by rw [Array.size_push]; exact hsz5))
          · exact ne_tup (N₇ _ (List.Mem.head _)).1 (N₇ _ (List.Mem.tail _ (List.Mem.tail _ (List.Mem.head _)))).1 z
          · exact ne_tup (N₇ _ (List.Mem.tail _ (List.Mem.head _))).1 (N₇ _ (List.Mem.tail _ (List.Mem.tail _ (List.Mem.head _)))).1 z
          have e8 := Ents.snoc (e := ⟨4, j, .none⟩) ⟨_, _, _, _, _, _, rfl, (N₈ _ (List.Mem.head _)).1, rfl, rfl, rfl⟩ (Ents.snoc (e := ⟨2, j, .int ((j : Int) - 3)⟩) ⟨_, _, _, _, _, _, rfl, (N₈ _ (List.Mem.tail _ (List.Mem.head _))).1, rfl, rfl, ⟨_, rfl⟩⟩ (ht2 h₈ F₈.keep fun p hp => (N₈ p (List.Mem.tail _ (List.Mem.tail _ (List.Mem.tail _ hp)))).1))
          clear F₇ N₇
          change wpAny _ _ _ _ _ _
          try k_fold
          repeat' (first | ((with_reducible show wpAny _ _ (inplaceOp Operator.Add (Value.ref _) (Value.ref _)) _ _ _); refine held_out ?_) | ((with_reducible show wpAny _ _ (call (Value.builtin "list.append") _) _ _ _); first | ((k_dflt (refine' append_K ?q9k1 ?q9k2 ?q9k3 ?_ ?q9z; (case q9k1 => k_asm); (case q9k2 => k_asm); (case q9k3 => k_upd); (case q9z => size_fits); k_whole)); intro _ _ _; (try k_sweep)) | refine held_out ?_) | ((with_reducible show wpAny _ _ (eval (Expr.Name _ _) _) _ _ _); k_dflt (refine' nameX_L ?q9F ?q9v ?_ ?q9a ?q9b; (case q9F => k_asm); (case q9a => rfl); (case q9b => rfl); (case q9v => assumption); k_whole)) | ((with_reducible show wpAny _ _ (call (Value.ref 96) _) _ _ _); refine hold_call ?_) | ((with_reducible show wpAny _ _ (subscriptTail _ _ (Value.ref _) (Value.int _ _)) _ _ _); k_dflt (refine' outs_item ?q9F ?q9N ?q9k0 ?q9k1 ?q9l ?_ ?q9hs; (case q9F => k_asm); (case q9N => assumption); (case q9k0 => first | exact Int.natCast_nonneg _ | with_reducible assumption | omega); (case q9k1 => first | exact Int.ofNat_lt.mpr (by with_reducible assumption) | with_reducible assumption | omega); (case q9l => assumption); (case q9hs => with_unfolding_all rfl); k_whole); intro _) | ((with_reducible show wpAny _ _ (assign (Expr.Tuple _ _ _) _ (Value.ref _)) _ _ _); k_dflt (refine' nd_unpack ?q9F ?q9N ?q9D ?q9k1 ?q9k2 ?q9k3 ?_; (case q9F => k_asm); (case q9N => k_asm); (case q9D => assumption); (case q9k1 => exact rfl); (case q9k2 => exact rfl); (case q9k3 => exact rfl)); intro _ _ _ _ _ _ _ _ _ _) | ((with_reducible show wpAny _ _ (call (Value.type "range") _) _ _ _); k_dflt (refine' range_K ?q9F ?q9N ?_; (case q9F => k_asm); (case q9N => k_asm); k_whole); intro _ _ _ _ _ _) | ((with_reducible show wpAny _ _ (call (Value.builtin "len") _) _ _ _); k_dflt (refine' nodes_len ?q9F ?q9N ?q9l ?_; (case q9F => k_asm); (case q9N => assumption); (case q9l => assumption); k_whole)) | ((with_reducible show wpAny _ _ (exec (Stmt.For _ _ _ _ _) _) _ _ _); refine hold_For ?_) | ((with_reducible show wpAny _ _ (subscriptTail _ _ (Value.ref _) (Value.int 0 _)) _ _ _); k_dflt (refine' nd_item ?q9F ?q9N ?_ ?q9hs; (case q9F => k_asm); (case q9N => assumption); (case q9hs => with_unfolding_all rfl); k_whole); intro _) | ((with_reducible show wpAny _ _ (subscriptTail _ _ (Value.ref _) (Value.int _ _)) _ _ _); k_dflt (refine' nodes_item ?q9F ?q9N ?q9k0 ?q9k1 ?q9l ?_ ?q9hs; (case q9F => k_asm); (case q9N => assumption); (case q9k0 => first | exact Int.natCast_nonneg _ | with_reducible assumption | omega); (case q9k1 => first | exact Int.ofNat_lt.mpr (by with_reducible assumption) | with_reducible assumption | omega); (case q9l => assumption); (case q9hs => with_unfolding_all rfl); k_whole); intro _ _) | (k_unfold; (try dsimp only)) | (k_end; wrow_close) | walk1 | (dsimp only; walk1) | (leave1; try dsimp only) | fail "no step")
          refine ret _ _ tl (fun b o q => F₈.keep b o (hg' b o q)) (nb _ nt.2) ?_
          rw [told_all hjl hE', if_neg (fun q => q ho), hsh]
          refine ⟨_, _, (N₈ _ (List.Mem.tail _ (List.Mem.tail _ (List.Mem.head _)))).1, ?_⟩
          rw [Array.toList_push, Array.toList_push]
          rw [show ∀ (a : List Ent) (x y : Ent), a ++ x :: [y] = (a ++ [x]) ++ [y] from fun a x y => by simp]
          exact e8
      · have hsh : shownOf (nd j) j = ⟨3, j, .str y⟩ := by unfold shownOf; rw [hp]
        change wpAny _ _ _ _ _ _
        try k_fold
        repeat' (first | ((with_reducible show wpAny _ _ (inplaceOp Operator.Add (Value.ref _) (Value.ref _)) _ _ _); refine held_out ?_) | ((with_reducible show wpAny _ _ (call (Value.builtin "list.append") _) _ _ _); first | ((k_dflt (refine' append_K ?q9k1 ?q9k2 ?q9k3 ?_ ?q9z; (case q9k1 => k_asm); (case q9k2 => k_asm); (case q9k3 => k_upd); (case q9z => size_fits); k_whole)); intro _ _ _; (try k_sweep)) | refine held_out ?_) | ((with_reducible show wpAny _ _ (eval (Expr.Name _ _) _) _ _ _); k_dflt (refine' nameX_L ?q9F ?q9v ?_ ?q9a ?q9b; (case q9F => k_asm); (case q9a => rfl); (case q9b => rfl); (case q9v => assumption); k_whole)) | ((with_reducible show wpAny _ _ (call (Value.ref 96) _) _ _ _); refine hold_call ?_) | ((with_reducible show wpAny _ _ (subscriptTail _ _ (Value.ref _) (Value.int _ _)) _ _ _); k_dflt (refine' outs_item ?q9F ?q9N ?q9k0 ?q9k1 ?q9l ?_ ?q9hs; (case q9F => k_asm); (case q9N => assumption); (case q9k0 => first | exact Int.natCast_nonneg _ | with_reducible assumption | omega); (case q9k1 => first | exact Int.ofNat_lt.mpr (by with_reducible assumption) | with_reducible assumption | omega); (case q9l => assumption); (case q9hs => with_unfolding_all rfl); k_whole); intro _) | ((with_reducible show wpAny _ _ (assign (Expr.Tuple _ _ _) _ (Value.ref _)) _ _ _); k_dflt (refine' nd_unpack ?q9F ?q9N ?q9D ?q9k1 ?q9k2 ?q9k3 ?_; (case q9F => k_asm); (case q9N => k_asm); (case q9D => assumption); (case q9k1 => exact rfl); (case q9k2 => exact rfl); (case q9k3 => exact rfl)); intro _ _ _ _ _ _ _ _ _ _) | ((with_reducible show wpAny _ _ (call (Value.type "range") _) _ _ _); k_dflt (refine' range_K ?q9F ?q9N ?_; (case q9F => k_asm); (case q9N => k_asm); k_whole); intro _ _ _ _ _ _) | ((with_reducible show wpAny _ _ (call (Value.builtin "len") _) _ _ _); k_dflt (refine' nodes_len ?q9F ?q9N ?q9l ?_; (case q9F => k_asm); (case q9N => assumption); (case q9l => assumption); k_whole)) | ((with_reducible show wpAny _ _ (exec (Stmt.For _ _ _ _ _) _) _ _ _); refine hold_For ?_) | ((with_reducible show wpAny _ _ (subscriptTail _ _ (Value.ref _) (Value.int 0 _)) _ _ _); k_dflt (refine' nd_item ?q9F ?q9N ?_ ?q9hs; (case q9F => k_asm); (case q9N => assumption); (case q9hs => with_unfolding_all rfl); k_whole); intro _) | ((with_reducible show wpAny _ _ (subscriptTail _ _ (Value.ref _) (Value.int _ _)) _ _ _); k_dflt (refine' nodes_item ?q9F ?q9N ?q9k0 ?q9k1 ?q9l ?_ ?q9hs; (case q9F => k_asm); (case q9N => assumption); (case q9k0 => first | exact Int.natCast_nonneg _ | with_reducible assumption | omega); (case q9k1 => first | exact Int.ofNat_lt.mpr (by with_reducible assumption) | with_reducible assumption | omega); (case q9l => assumption); (case q9hs => with_unfolding_all rfl); k_whole); intro _ _) | (k_unfold; (try dsimp only)) | (k_end; wrow_close) | walk1 | (dsimp only; walk1) | (leave1; try dsimp only) | fail "no step")
        rename_i D5 h₅ F₅ N₅ lt5
        refine held (append_K F₅ N₅ (.tail (fun z => ?_) (.head fun p hp => (ht1 p hp).2)) (fun h₆ F₆ N₆ => ?_) hsz4)
        · exact ne_tup (N₅ _ (List.Mem.head _)).1 (N₅ _ (List.Mem.tail _ (List.Mem.head _))).1 z
        have e6 := Ents.snoc (e := ⟨3, j, .str y⟩) ⟨_, _, _, _, _, _, rfl, (N₆ _ (List.Mem.head _)).1, rfl, rfl, ⟨_, rfl⟩⟩ (ht2 h₆ F₆.keep fun p hp => (N₆ p (List.Mem.tail _ (List.Mem.tail _ hp))).1)
        have nt6 := (N₆ _ (List.Mem.head _)).2
        clear F₅ N₅
        change wpAny _ _ _ _ _ _
        try k_fold
        repeat' (first | ((with_reducible show wpAny _ _ (inplaceOp Operator.Add (Value.ref _) (Value.ref _)) _ _ _); refine held_out ?_) | ((with_reducible show wpAny _ _ (call (Value.builtin "list.append") _) _ _ _); first | ((k_dflt (refine' append_K ?q9k1 ?q9k2 ?q9k3 ?_ ?q9z; (case q9k1 => k_asm); (case q9k2 => k_asm); (case q9k3 => k_upd); (case q9z => size_fits); k_whole)); intro _ _ _; (try k_sweep)) | refine held_out ?_) | ((with_reducible show wpAny _ _ (eval (Expr.Name _ _) _) _ _ _); k_dflt (refine' nameX_L ?q9F ?q9v ?_ ?q9a ?q9b; (case q9F => k_asm); (case q9a => rfl); (case q9b => rfl); (case q9v => assumption); k_whole)) | ((with_reducible show wpAny _ _ (call (Value.ref 96) _) _ _ _); refine hold_call ?_) | ((with_reducible show wpAny _ _ (subscriptTail _ _ (Value.ref _) (Value.int _ _)) _ _ _); k_dflt (refine' outs_item ?q9F ?q9N ?q9k0 ?q9k1 ?q9l ?_ ?q9hs; (case q9F => k_asm); (case q9N => assumption); (case q9k0 => first | exact Int.natCast_nonneg _ | with_reducible assumption | omega); (case q9k1 => first | exact Int.ofNat_lt.mpr (by with_reducible assumption) | with_reducible assumption | omega); (case q9l => assumption); (case q9hs => with_unfolding_all rfl); k_whole); intro _) | ((with_reducible show wpAny _ _ (assign (Expr.Tuple _ _ _) _ (Value.ref _)) _ _ _); k_dflt (refine' nd_unpack ?q9F ?q9N ?q9D ?q9k1 ?q9k2 ?q9k3 ?_; (case q9F => k_asm); (case q9N => k_asm); (case q9D => assumption); (case q9k1 => exact rfl); (case q9k2 => exact rfl); (case q9k3 => exact rfl)); intro _ _ _ _ _ _ _ _ _ _) | ((with_reducible show wpAny _ _ (call (Value.type "range") _) _ _ _); k_dflt (refine' range_K ?q9F ?q9N ?_; (case q9F => k_asm); (case q9N => k_asm); k_whole); intro _ _ _ _ _ _) | ((with_reducible show wpAny _ _ (call (Value.builtin "len") _) _ _ _); k_dflt (refine' nodes_len ?q9F ?q9N ?q9l ?_; (case q9F => k_asm); (case q9N => assumption); (case q9l => assumption); k_whole)) | ((with_reducible show wpAny _ _ (exec (Stmt.For _ _ _ _ _) _) _ _ _); refine hold_For ?_) | ((with_reducible show wpAny _ _ (subscriptTail _ _ (Value.ref _) (Value.int 0 _)) _ _ _); k_dflt (refine' nd_item ?q9F ?q9N ?_ ?q9hs; (case q9F => k_asm); (case q9N => assumption); (case q9hs => with_unfolding_all rfl); k_whole); intro _) | ((with_reducible show wpAny _ _ (subscriptTail _ _ (Value.ref _) (Value.int _ _)) _ _ _); k_dflt (refine' nodes_item ?q9F ?q9N ?q9k0 ?q9k1 ?q9l ?_ ?q9hs; (case q9F => k_asm); (case q9N => assumption); (case q9k0 => first | exact Int.natCast_nonneg _ | with_reducible assumption | omega); (case q9k1 => first | exact Int.ofNat_lt.mpr (by with_reducible assumption) | with_reducible assumption | omega); (case q9l => assumption); (case q9hs => with_unfolding_all rfl); k_whole); intro _ _) | (k_unfold; (try dsimp only)) | (k_end; wrow_close) | walk1 | (dsimp only; walk1) | (leave1; try dsimp only) | fail "no step")
        · rename_i t9 ho9
          have ho : out nd len j ≠ 0 := ho9
          refine ret _ _ tl (fun b o q => F₆.keep b o (hg' b o q)) (nb _ nt.2) ?_
          rw [told_all hjl hE', if_pos ho, hsh]
          exact ⟨_, _, (N₆ _ (List.Mem.tail _ (List.Mem.head _))).1, by rw [Array.toList_push]; exact e6⟩
        · rename_i t9 ho9 D7 h₇ F₇ N₇ lt7
          have ho : out nd len j = 0 := ho9
          refine held (append_K F₇ N₇ (.tail (fun z => ?_) (.tail (fun z => ?_) (.head fun p hp => (ht1 p hp).2))) (fun h₈ F₈ N₈ => ?_) (by rw [Array.size_push]; exact hsz5))
          · exact ne_tup (N₇ _ (List.Mem.head _)).1 (N₇ _ (List.Mem.tail _ (List.Mem.tail _ (List.Mem.head _)))).1 z
          · exact ne_tup (N₇ _ (List.Mem.tail _ (List.Mem.head _))).1 (N₇ _ (List.Mem.tail _ (List.Mem.tail _ (List.Mem.head _)))).1 z
          have e8 := Ents.snoc (e := ⟨4, j, .none⟩) ⟨_, _, _, _, _, _, rfl, (N₈ _ (List.Mem.head _)).1, rfl, rfl, rfl⟩ (Ents.snoc (e := ⟨3, j, .str y⟩) ⟨_, _, _, _, _, _, rfl, (N₈ _ (List.Mem.tail _ (List.Mem.head _))).1, rfl, rfl, ⟨_, rfl⟩⟩ (ht2 h₈ F₈.keep fun p hp => (N₈ p (List.Mem.tail _ (List.Mem.tail _ (List.Mem.tail _ hp)))).1))
          clear F₇ N₇
          change wpAny _ _ _ _ _ _
          try k_fold
          repeat' (first | ((with_reducible show wpAny _ _ (inplaceOp Operator.Add (Value.ref _) (Value.ref _)) _ _ _); refine held_out ?_) | ((with_reducible show wpAny _ _ (call (Value.builtin "list.append") _) _ _ _); first | ((k_dflt (refine' append_K ?q9k1 ?q9k2 ?q9k3 ?_ ?q9z; (case q9k1 => k_asm); (case q9k2 => k_asm); (case q9k3 => k_upd); (case q9z => size_fits); k_whole)); intro _ _ _; (try k_sweep)) | refine held_out ?_) | ((with_reducible show wpAny _ _ (eval (Expr.Name _ _) _) _ _ _); k_dflt (refine' nameX_L ?q9F ?q9v ?_ ?q9a ?q9b; (case q9F => k_asm); (case q9a => rfl); (case q9b => rfl); (case q9v => assumption); k_whole)) | ((with_reducible show wpAny _ _ (call (Value.ref 96) _) _ _ _); refine hold_call ?_) | ((with_reducible show wpAny _ _ (subscriptTail _ _ (Value.ref _) (Value.int _ _)) _ _ _); k_dflt (refine' outs_item ?q9F ?q9N ?q9k0 ?q9k1 ?q9l ?_ ?q9hs; (case q9F => k_asm); (case q9N => assumption); (case q9k0 => first | exact Int.natCast_nonneg _ | with_reducible assumption | omega); (case q9k1 => first | exact Int.ofNat_lt.mpr (by with_reducible assumption) | with_reducible assumption | omega); (case q9l => assumption); (case q9hs => with_unfolding_all rfl); k_whole); intro _) | ((with_reducible show wpAny _ _ (assign (Expr.Tuple _ _ _) _ (Value.ref _)) _ _ _); k_dflt (refine' nd_unpack ?q9F ?q9N ?q9D ?q9k1 ?q9k2 ?q9k3 ?_; (case q9F => k_asm); (case q9N => k_asm); (case q9D => assumption); (case q9k1 => exact rfl); (case q9k2 => exact rfl); (case q9k3 => exact rfl)); intro _ _ _ _ _ _ _ _ _ _) | ((with_reducible show wpAny _ _ (call (Value.type "range") _) _ _ _); k_dflt (refine' range_K ?q9F ?q9N ?_; (case q9F => k_asm); (case q9N => k_asm); k_whole); intro _ _ _ _ _ _) | ((with_reducible show wpAny _ _ (call (Value.builtin "len") _) _ _ _); k_dflt (refine' nodes_len ?q9F ?q9N ?q9l ?_; (case q9F => k_asm); (case q9N => assumption); (case q9l => assumption); k_whole)) | ((with_reducible show wpAny _ _ (exec (Stmt.For _ _ _ _ _) _) _ _ _); refine hold_For ?_) | ((with_reducible show wpAny _ _ (subscriptTail _ _ (Value.ref _) (Value.int 0 _)) _ _ _); k_dflt (refine' nd_item ?q9F ?q9N ?_ ?q9hs; (case q9F => k_asm); (case q9N => assumption); (case q9hs => with_unfolding_all rfl); k_whole); intro _) | ((with_reducible show wpAny _ _ (subscriptTail _ _ (Value.ref _) (Value.int _ _)) _ _ _); k_dflt (refine' nodes_item ?q9F ?q9N ?q9k0 ?q9k1 ?q9l ?_ ?q9hs; (case q9F => k_asm); (case q9N => assumption); (case q9k0 => first | exact Int.natCast_nonneg _ | with_reducible assumption | omega); (case q9k1 => first | exact Int.ofNat_lt.mpr (by with_reducible assumption) | with_reducible assumption | omega); (case q9l => assumption); (case q9hs => with_unfolding_all rfl); k_whole); intro _ _) | (k_unfold; (try dsimp only)) | (k_end; wrow_close) | walk1 | (dsimp only; walk1) | (leave1; try dsimp only) | fail "no step")
          refine ret _ _ tl (fun b o q => F₈.keep b o (hg' b o q)) (nb _ nt.2) ?_
          rw [told_all hjl hE', if_neg (fun q => q ho), hsh]
          refine ⟨_, _, (N₈ _ (List.Mem.tail _ (List.Mem.tail _ (List.Mem.head _)))).1, ?_⟩
          rw [Array.toList_push, Array.toList_push]
          rw [show ∀ (a : List Ent) (x y : Ent), a ++ x :: [y] = (a ++ [x]) ++ [y] from fun a x y => by simp]
          exact e8
    case step =>
      rintro i tk h m s₁ hi ⟨es', F', q1, q2, q3, q4, q5, nt, L', eqT⟩ hit₁ hn₂ hs₂ ⟨h₅, tk₅, rfl⟩
      obtain ⟨oL, esL, epL, nL1, nL2, nL3⟩ := id F'.ns
      have F₁ := F'.set hn₂ hs₂
      obtain ⟨m₅, hm₅⟩ : ∃ m₅ : Str → Option Value, m₅ = (fun y => if y = Str.ofString "other" then some (Value.int ((j : Int) + 1 + (i : Nat) * 1) tk) else m y) := ⟨_, rfl⟩
      have F₅ : Fr g L h₅ m₅ := by rw [hm₅]; exact F₁
      have ei : (j : Int) + 1 + (i : Nat) * 1 = ((j + 1 + i : Nat) : Int) := by rw [Int.mul_one]; rfl
      have k1 := kid_ltI hi
      have p0 : m₅ (Str.ofString "other") = some (.int ((j + 1 + i : Nat) : Int) tk) := by
        rw [hm₅, ← ei]
        rfl
      have p1 : m₅ (Str.ofString "told") = some (.ref tl) := by rw [hm₅]; exact q1
      have p2 : m₅ (Str.ofString "number") = some (.int j tj) := by rw [hm₅]; exact q2
      have p3 : m₅ (Str.ofString "nodes") = some (.ref nl) := by rw [hm₅]; exact q3
      have p4 : m₅ (Str.ofString "outs") = some (.ref ou) := by rw [hm₅]; exact q4
      have p5 : m₅ (Str.ofString "place") = some x₀ := by rw [hm₅]; exact q5
      have L₅ : LogIs h₅ tl es' := L'.seq fun b o _ _ q q' => (hs₂.2 b fun z => by rw [z, nL1] at q; cases q; rw [nL2] at q'; cases q').trans q
      obtain ⟨its5, n5, l5, e5⟩ := id L₅
      obtain ⟨tups, ht1, ht2⟩ := log_split F₅ l5 e5
      have N₅ : News g L h₅ ((h₃.objs.size, iterObj ((j : Int) + 1 + (i : Nat) * 1 + 1) (((len - (j + 1) : Nat) : Int) - (i : Int) - 1) 1) :: (tl, W.listOf its5 n5) :: tups) := fun z hz => by
        rcases List.mem_cons.mp hz with rfl | hz
        · exact ⟨(hs₂.2 _ hIL).trans hit₁, hIL, hit0⟩
        · rcases List.mem_cons.mp hz with rfl | hz
          · exact ⟨l5, nt⟩
          · exact (ht1 _ hz).1
      have i1 := sub_up hi
      rw [i1] at eqT
      have eK : kidsTold nd (out nd len) (told nd len) j (len - (j + 1) - (i + 1) + 1) (j + 1 + i) = if (nd (j + 1 + i)).parent = j then told nd len (j + 1 + i) ++ (if out nd len (j + 1 + i) ≠ 0 then [] else kidsTold nd (out nd len) (told nd len) j (len - (j + 1) - (i + 1)) (j + 1 + i + 1)) else kidsTold nd (out nd len) (told nd len) j (len - (j + 1) - (i + 1)) (j + 1 + i + 1) := rfl
      rw [eK] at eqT
      have lenT := congrArg List.length (told_all hjl hE')
      simp only [List.length_append, List.length_cons, List.length_nil] at lenT
      refine wpAny_passesOwn (Thrown.passes rfl rfl) ?_
      clear F₂ F₃ N₂ N₃ F₁ F'
      change wpAny _ _ _ _ _ _
      try k_fold
      repeat' (first | ((with_reducible show wpAny _ _ (inplaceOp Operator.Add (Value.ref _) (Value.ref _)) _ _ _); refine held_out ?_) | ((with_reducible show wpAny _ _ (call (Value.builtin "list.append") _) _ _ _); first | ((k_dflt (refine' append_K ?q9k1 ?q9k2 ?q9k3 ?_ ?q9z; (case q9k1 => k_asm); (case q9k2 => k_asm); (case q9k3 => k_upd); (case q9z => size_fits); k_whole)); intro _ _ _; (try k_sweep)) | refine held_out ?_) | ((with_reducible show wpAny _ _ (eval (Expr.Name _ _) _) _ _ _); k_dflt (refine' nameX_L ?q9F ?q9v ?_ ?q9a ?q9b; (case q9F => k_asm); (case q9a => rfl); (case q9b => rfl); (case q9v => assumption); k_whole)) | ((with_reducible show wpAny _ _ (call (Value.ref 96) _) _ _ _); refine hold_call ?_) | ((with_reducible show wpAny _ _ (subscriptTail _ _ (Value.ref _) (Value.int _ _)) _ _ _); k_dflt (refine' outs_item ?q9F ?q9N ?q9k0 ?q9k1 ?q9l ?_ ?q9hs; (case q9F => k_asm); (case q9N => assumption); (case q9k0 => first | exact Int.natCast_nonneg _ | with_reducible assumption | omega); (case q9k1 => first | exact Int.ofNat_lt.mpr (by with_reducible assumption) | with_reducible assumption | omega); (case q9l => assumption); (case q9hs => with_unfolding_all rfl); k_whole); intro _) | ((with_reducible show wpAny _ _ (assign (Expr.Tuple _ _ _) _ (Value.ref _)) _ _ _); k_dflt (refine' nd_unpack ?q9F ?q9N ?q9D ?q9k1 ?q9k2 ?q9k3 ?_; (case q9F => k_asm); (case q9N => k_asm); (case q9D => assumption); (case q9k1 => exact rfl); (case q9k2 => exact rfl); (case q9k3 => exact rfl)); intro _ _ _ _ _ _ _ _ _ _) | ((with_reducible show wpAny _ _ (call (Value.type "range") _) _ _ _); k_dflt (refine' range_K ?q9F ?q9N ?_; (case q9F => k_asm); (case q9N => k_asm); k_whole); intro _ _ _ _ _ _) | ((with_reducible show wpAny _ _ (call (Value.builtin "len") _) _ _ _); k_dflt (refine' nodes_len ?q9F ?q9N ?q9l ?_; (case q9F => k_asm); (case q9N => assumption); (case q9l => assumption); k_whole)) | ((with_reducible show wpAny _ _ (exec (Stmt.For _ _ _ _ _) _) _ _ _); refine hold_For ?_) | ((with_reducible show wpAny _ _ (subscriptTail _ _ (Value.ref _) (Value.int 0 _)) _ _ _); k_dflt (refine' nd_item ?q9F ?q9N ?_ ?q9hs; (case q9F => k_asm); (case q9N => assumption); (case q9hs => with_unfolding_all rfl); k_whole); intro _) | ((with_reducible show wpAny _ _ (subscriptTail _ _ (Value.ref _) (Value.int _ _)) _ _ _); k_dflt (refine' nodes_item ?q9F ?q9N ?q9k0 ?q9k1 ?q9l ?_ ?q9hs; (case q9F => k_asm); (case q9N => assumption); (case q9k0 => first | exact Int.natCast_nonneg _ | with_reducible assumption | omega); (case q9k1 => first | exact Int.ofNat_lt.mpr (by with_reducible assumption) | with_reducible assumption | omega); (case q9l => assumption); (case q9hs => with_unfolding_all rfl); k_whole); intro _ _) | (k_unfold; (try dsimp only)) | (k_end; wrow_close) | walk1 | (dsimp only; walk1) | (leave1; try dsimp only) | fail "no step")
      · rename_i t' n' tk' hpar
        have hpar' : (nd (j + 1 + i)).parent = j := hpar
        rw [if_pos hpar'] at eqT
        have eqL := congrArg List.length eqT
        simp only [List.length_append, List.length_cons, List.length_nil] at eqL
        refine wpAny_loadName_local rfl rfl F₅.ns p1 ?_
        repeat' (first | ((with_reducible show wpAny _ _ (inplaceOp Operator.Add (Value.ref _) (Value.ref _)) _ _ _); refine held_out ?_) | ((with_reducible show wpAny _ _ (call (Value.builtin "list.append") _) _ _ _); first | ((k_dflt (refine' append_K ?q9k1 ?q9k2 ?q9k3 ?_ ?q9z; (case q9k1 => k_asm); (case q9k2 => k_asm); (case q9k3 => k_upd); (case q9z => size_fits); k_whole)); intro _ _ _; (try k_sweep)) | refine held_out ?_) | ((with_reducible show wpAny _ _ (eval (Expr.Name _ _) _) _ _ _); k_dflt (refine' nameX_L ?q9F ?q9v ?_ ?q9a ?q9b; (case q9F => k_asm); (case q9a => rfl); (case q9b => rfl); (case q9v => assumption); k_whole)) | ((with_reducible show wpAny _ _ (call (Value.ref 96) _) _ _ _); refine hold_call ?_) | ((with_reducible show wpAny _ _ (subscriptTail _ _ (Value.ref _) (Value.int _ _)) _ _ _); k_dflt (refine' outs_item ?q9F ?q9N ?q9k0 ?q9k1 ?q9l ?_ ?q9hs; (case q9F => k_asm); (case q9N => assumption); (case q9k0 => first | exact Int.natCast_nonneg _ | with_reducible assumption | omega); (case q9k1 => first | exact Int.ofNat_lt.mpr (by with_reducible assumption) | with_reducible assumption | omega); (case q9l => assumption); (case q9hs => with_unfolding_all rfl); k_whole); intro _) | ((with_reducible show wpAny _ _ (assign (Expr.Tuple _ _ _) _ (Value.ref _)) _ _ _); k_dflt (refine' nd_unpack ?q9F ?q9N ?q9D ?q9k1 ?q9k2 ?q9k3 ?_; (case q9F => k_asm); (case q9N => k_asm); (case q9D => assumption); (case q9k1 => exact rfl); (case q9k2 => exact rfl); (case q9k3 => exact rfl)); intro _ _ _ _ _ _ _ _ _ _) | ((with_reducible show wpAny _ _ (call (Value.type "range") _) _ _ _); k_dflt (refine' range_K ?q9F ?q9N ?_; (case q9F => k_asm); (case q9N => k_asm); k_whole); intro _ _ _ _ _ _) | ((with_reducible show wpAny _ _ (call (Value.builtin "len") _) _ _ _); k_dflt (refine' nodes_len ?q9F ?q9N ?q9l ?_; (case q9F => k_asm); (case q9N => assumption); (case q9l => assumption); k_whole)) | ((with_reducible show wpAny _ _ (exec (Stmt.For _ _ _ _ _) _) _ _ _); refine hold_For ?_) | ((with_reducible show wpAny _ _ (subscriptTail _ _ (Value.ref _) (Value.int 0 _)) _ _ _); k_dflt (refine' nd_item ?q9F ?q9N ?_ ?q9hs; (case q9F => k_asm); (case q9N => assumption); (case q9hs => with_unfolding_all rfl); k_whole); intro _) | ((with_reducible show wpAny _ _ (subscriptTail _ _ (Value.ref _) (Value.int _ _)) _ _ _); k_dflt (refine' nodes_item ?q9F ?q9N ?q9k0 ?q9k1 ?q9l ?_ ?q9hs; (case q9F => k_asm); (case q9N => assumption); (case q9k0 => first | exact Int.natCast_nonneg _ | with_reducible assumption | omega); (case q9k1 => first | exact Int.ofNat_lt.mpr (by with_reducible assumption) | with_reducible assumption | omega); (case q9l => assumption); (case q9hs => with_unfolding_all rfl); k_whole); intro _ _) | (k_unfold; (try dsimp only)) | (k_end; wrow_close) | walk1 | (dsimp only; walk1) | (leave1; try dsimp only) | fail "no step")
        refine held (ih (j + 1 + i) (kid_gt j i) (kid_lt hi) rfl (fun b o q => F₅.keep b o (Bw.stays b o q)) (pushX Bw F₅ rfl rfl).frames rfl (by k_room) (by k_room) (hN'.fr F₅) (hO'.fr F₅) (ar_9 lenT eqL hes) (fun h₆ tk₆ t kp fr lt => ?_))
        obtain ⟨its6, n6, l6, e6⟩ := id lt
        have z5 := e5.length
        have z6 := e6.length
        rw [Array.length_toList] at z5 z6
        have ha := kp _ _ l5
        refine iadd_lists ha l6 (ar_10 lenT eqL hes z5 z6) ?_
        have self := Heap.get?_update_self (Obj.mapSeq fun x => x ++ its6) ha rfl
        have sb : Heap.SameBut tl h₆ (h₆.update tl (Obj.mapSeq fun x => x ++ its6)) := Heap.SameBut.update ..
        generalize h₆.update tl (Obj.mapSeq fun x => x ++ its6) = h₇ at self sb ⊢
        have F₇ := (Fr.on F₅ kp).change sb nt.1 nt.2
        have ki : h₇.get? h₃.objs.size = _ := (sb.2 _ (fun z => by
          have z1 := (N₅ _ (List.Mem.head _)).1
          dsimp only at z1
          rw [z, l5] at z1
          cases congrArg Obj.data (Option.some.inj z1))).trans (kp _ _ (N₅ _ (List.Mem.head _)).1)
        have tupne : ∀ b o, h₆.get? b = some o → o.cls = .type "tuple" → b ≠ tl := fun b o q c z => by
          rw [z, ha] at q
          cases q
          exact absurd (Value.type.inj c) (by decide)
        have e7 : Ents h₇ (its5 ++ its6).toList (es' ++ told nd len (j + 1 + i)) := by
          rw [Array.toList_append]
          exact Ents.append (e5.imp fun v e => EntIs.seq fun b o _ _ q _ c => (sb.2 b (tupne b o (kp _ _ q) c)).trans (kp _ _ q)) (e6.imp fun v e => EntIs.seq fun b o _ _ q _ c => (sb.2 b (tupne b o q c)).trans q)
        obtain ⟨tups', hu1, hu2⟩ := log_split F₇ self e7
        have N₇ : News g L h₇ ((h₃.objs.size, iterObj ((j : Int) + 1 + (i : Nat) * 1 + 1) (((len - (j + 1) : Nat) : Int) - (i : Int) - 1) 1) :: (tl, W.listOf (its5 ++ its6) _) :: tups') := fun z hz => by
          rcases List.mem_cons.mp hz with rfl | hz
          · exact ⟨ki, hIL, hit0⟩
          · rcases List.mem_cons.mp hz with rfl | hz
            · exact ⟨self, nt⟩
            · exact (hu1 _ hz).1
        clear F₅ N₅
        change wpAny _ _ _ _ _ _
        try k_fold
        repeat' (first | ((with_reducible show wpAny _ _ (inplaceOp Operator.Add (Value.ref _) (Value.ref _)) _ _ _); refine held_out ?_) | ((with_reducible show wpAny _ _ (call (Value.builtin "list.append") _) _ _ _); first | ((k_dflt (refine' append_K ?q9k1 ?q9k2 ?q9k3 ?_ ?q9z; (case q9k1 => k_asm); (case q9k2 => k_asm); (case q9k3 => k_upd); (case q9z => size_fits); k_whole)); intro _ _ _; (try k_sweep)) | refine held_out ?_) | ((with_reducible show wpAny _ _ (eval (Expr.Name _ _) _) _ _ _); k_dflt (refine' nameX_L ?q9F ?q9v ?_ ?q9a ?q9b; (case q9F => k_asm); (case q9a => rfl); (case q9b => rfl); (case q9v => assumption); k_whole)) | ((with_reducible show wpAny _ _ (call (Value.ref 96) _) _ _ _); refine hold_call ?_) | ((with_reducible show wpAny _ _ (subscriptTail _ _ (Value.ref _) (Value.int _ _)) _ _ _); k_dflt (refine' outs_item ?q9F ?q9N ?q9k0 ?q9k1 ?q9l ?_ ?q9hs; (case q9F => k_asm); (case q9N => assumption); (case q9k0 => first | exact Int.natCast_nonneg _ | with_reducible assumption | omega); (case q9k1 => first | exact Int.ofNat_lt.mpr (by with_reducible assumption) | with_reducible assumption | omega); (case q9l => assumption); (case q9hs => with_unfolding_all rfl); k_whole); intro _) | ((with_reducible show wpAny _ _ (assign (Expr.Tuple _ _ _) _ (Value.ref _)) _ _ _); k_dflt (refine' nd_unpack ?q9F ?q9N ?q9D ?q9k1 ?q9k2 ?q9k3 ?_; (case q9F => k_asm); (case q9N => k_asm); (case q9D => assumption); (case q9k1 => exact rfl); (case q9k2 => exact rfl); (case q9k3 => exact rfl)); intro _ _ _ _ _ _ _ _ _ _) | ((with_reducible show wpAny _ _ (call (Value.type "range") _) _ _ _); k_dflt (refine' range_K ?q9F ?q9N ?_; (case q9F => k_asm); (case q9N => k_asm); k_whole); intro _ _ _ _ _ _) | ((with_reducible show wpAny _ _ (call (Value.builtin "len") _) _ _ _); k_dflt (refine' nodes_len ?q9F ?q9N ?q9l ?_; (case q9F => k_asm); (case q9N => assumption); (case q9l => assumption); k_whole)) | ((with_reducible show wpAny _ _ (exec (Stmt.For _ _ _ _ _) _) _ _ _); refine hold_For ?_) | ((with_reducible show wpAny _ _ (subscriptTail _ _ (Value.ref _) (Value.int 0 _)) _ _ _); k_dflt (refine' nd_item ?q9F ?q9N ?_ ?q9hs; (case q9F => k_asm); (case q9N => assumption); (case q9hs => with_unfolding_all rfl); k_whole); intro _) | ((with_reducible show wpAny _ _ (subscriptTail _ _ (Value.ref _) (Value.int _ _)) _ _ _); k_dflt (refine' nodes_item ?q9F ?q9N ?q9k0 ?q9k1 ?q9l ?_ ?q9hs; (case q9F => k_asm); (case q9N => assumption); (case q9k0 => first | exact Int.natCast_nonneg _ | with_reducible assumption | omega); (case q9k1 => first | exact Int.ofNat_lt.mpr (by with_reducible assumption) | with_reducible assumption | omega); (case q9l => assumption); (case q9hs => with_unfolding_all rfl); k_whole); intro _ _) | (k_unfold; (try dsimp only)) | (k_end; wrow_close) | walk1 | (dsimp only; walk1) | (leave1; try dsimp only) | fail "no step")
        · rename_i h₈ F₈ N₈ t8 ho8
          have ho : out nd len (j + 1 + i) ≠ 0 := ho8
          rw [if_pos ho, List.append_nil] at eqT
          have e8 := hu2 h₈ F₈.keep (fun p hp => (N₈ p (List.Mem.tail _ (List.Mem.tail _ hp))).1)
          exact held ⟨⟨_, _, rfl⟩, _, _, F₈, rfl, p2, p3, p4, p5, nt, ⟨_, _, (N₈ _ (List.Mem.tail _ (List.Mem.head _))).1, e8⟩, (List.append_nil _).trans eqT⟩
        · rename_i h₈ F₈ N₈ t8 ho8
          have ho : out nd len (j + 1 + i) = 0 := ho8
          rw [if_neg (fun q => q ho)] at eqT
          have e8 := hu2 h₈ F₈.keep (fun p hp => (N₈ p (List.Mem.tail _ (List.Mem.tail _ hp))).1)
          exact held ⟨⟨_, _, rfl⟩, (N₈ _ (List.Mem.head _)).1, _, _, F₈, rfl, p2, p3, p4, p5, nt, ⟨_, _, (N₈ _ (List.Mem.tail _ (List.Mem.head _))).1, e8⟩, (List.append_assoc _ _ _).trans eqT⟩
      · rename_i t' n' tk' hpar
        have hpar' : ¬ (nd (j + 1 + i)).parent = j := hpar
        rw [if_neg hpar'] at eqT
        exact held ⟨⟨_, _, rfl⟩, (N₅ _ (List.Mem.head _)).1, m₅, es', F₅, p1, p2, p3, p4, p5, nt, L₅, eqT⟩
end

/-! F19 -/
section
variable {prog : Program} {w : World} {p : Program} {loose : List Str} {mean : ExcName → Option Value} {mg mb : Str → Option Value} {B : Heap} {nd : Nat → Nd} {len : Nat}
theorem tell_all (b : Base w p loose mean mg mb B) (hok : ∀ i, i < len → (nd i).Ok) (hlen : len ≤ 100) : ∀ d j, len ≤ j + d → j < len → TellOk prog w B nd len j := by
  intro d
  induction d with
  | zero => intro j h1 h2; omega
  | succ d ih => exact fun j h1 h2 => told_spec b hok hlen h2 fun i h3 h4 => ih i (by omega) h4
end
section
variable {prog : Program} {w : World} {A : Around} {E : Value → Shared → Prop} {s : Shared} {env : Env}
/-- a loop over a range, with any target -/
theorem range_loopA {R : Result → Shared → Prop} {target : Expr} {body : List Stmt} {it : Addr} {a : Int} {n : Nat} {c : Int} (J : Nat → Heap → Prop)
    (hh : A.handled = none) (h0 : J 0 s.heap) (hit : IsRangeIter s.heap it a n c)
    (hJ : ∀ i h h', J i h → (∃ o vs, h.get? it = some o ∧ o.data = .fields vs ∧ o.cls = .type "range_iterator") → Heap.ExtBut it h h' → J i h')
    (step : ∀ i tk s₁, i < n → J i s₁.heap → IsRangeIter s₁.heap it (a + (i : Nat) * c + c) ((n : Int) - (i : Nat) - 1) c → (∃ h₁ t₁, s₁ = { s with heap := h₁, toks := t₁ }) →
      wpAny (model prog w) A (assign target env (.int (a + (i : Nat) * c) tk)) (fun _ s₂ => wpAny (model prog w) A (execs body env) (fun f s₂ => match f with
        | .ret v => R (.ok (.ret v)) s₂
        | .brk => Held (R (.ok .next) s₂)
        | _ => Held ((∃ h₁ t₁, s₂ = { s with heap := h₁, toks := t₁ }) ∧ IsRangeIter s₂.heap it (a + (i : Nat) * c + c) ((n : Int) - (i : Nat) - 1) c ∧ J (i + 1) s₂.heap)) (notedBy (model prog w) A env fun e s' => R (.error e) s') s₂) (notedBy (model prog w) A env fun e s' => R (.error e) s') s₁)
    (hR : ∀ h' tk, J n h' → R (.ok .next) { s with heap := h', toks := tk })
    (ht : ∀ v, letOwnedTupleGo target (.ref it) v = pure () := by intro _; rfl) :
    codeAny (model prog w) A (.forLoop target (.ref it) body [] env) R s := by
  refine codeAny_forLoop (fun k s' => ∃ h' tk i, s' = { s with heap := h', toks := tk } ∧ IsRangeIter h' it (a + (i : Nat) * c) ((n : Int) - (i : Nat)) c ∧ J i h' ∧ i ≤ n ∧ k = n + 1 - i) ?_ (n + 1) ⟨s.heap, s.toks, 0, rfl, by simpa using hit, h0, Nat.zero_le _, rfl⟩ ht
  rintro k s' ⟨h', tk, i, rfl, hit', hJ', hi, rfl⟩
  by_cases hlt : i < n
  · refine wpAny_pyNext_range_item hit' (by omega) fun h₁ hit₁ hs₁ => ?_
    have J₁ := hJ i h' h₁ hJ' ⟨_, _, hit', rfl, rfl⟩ hs₁.extBut
    have e1 : a + ((i + 1 : Nat) : Int) * c = a + (i : Int) * c + c := by push_cast; rw [Int.add_mul, Int.one_mul, Int.add_assoc]
    have e2 : (n : Int) - ((i + 1 : Nat) : Int) = (n : Int) - (i : Int) - 1 := by push_cast; omega
    refine wpAny_mono (step i _ { s with heap := h₁, toks := tk + 1 } hlt J₁ hit₁ ⟨_, _, rfl⟩) (fun _ s₂ h₂ => wpAny_mono h₂ (fun f s₃ h₃ => ?_) fun _ _ e => e) fun _ _ e => e
    cases f with
    | ret v => exact h₃
    | brk => exact h₃
    | next =>
      obtain ⟨⟨h₃', tk₃, rfl⟩, hit₃, hJ₃⟩ := h₃
      exact ⟨n + 1 - (i + 1), ar_7 hlt, h₃', tk₃, i + 1, rfl, by rw [e1, e2]; exact hit₃, hJ₃, hlt, rfl⟩
    | cont =>
      obtain ⟨⟨h₃', tk₃, rfl⟩, hit₃, hJ₃⟩ := h₃
      exact ⟨n + 1 - (i + 1), ar_7 hlt, h₃', tk₃, i + 1, rfl, by rw [e1, e2]; exact hit₃, hJ₃, hlt, rfl⟩
  · have hin : i = n := by omega
    subst hin
    refine wpAny_pyNext_range_end hh hit' (by omega) fun h₁ he₁ => wpAny_execs_nil ?_
    exact hR h₁ tk (hJ i h' h₁ hJ' ⟨_, _, hit', rfl, rfl⟩ he₁)
end

/-! F20 -/

section
variable {prog : Program} {w : World} {A : Around} {E : Value → Shared → Prop} {s : Shared} {env : Env}
theorem For_rangeC {target : Expr} {pos : Pos} {iter : Expr} {body : List Stmt} {Q : Flow → Shared → Prop}
    (h : wpAny (model prog w) A (eval iter env) (fun r s₁ => Held (∃ R a b c t u v, r = .ref R ∧ IsRange s₁.heap R a b c t u v ∧ Builtin.Range.small a b c = true ∧
      codeAny (model prog w) A (.forLoop target (.ref s₁.heap.objs.size) body [] env) (fun r s' => match r with | .ok f => Q f s' | .error e => cameBackBy (model prog w) A env E e s')
        { s₁ with heap := s₁.heap.push (iterObj a (Builtin.Range.rangeSize a b c) c) })) E s)
    (hs : ∀ x, foldedSetIterable iter env x = pure x := by intro _; rfl) : wpAny (model prog w) A (exec (.For target iter body [] pos) env) Q E s := by
  refine wpAny_For (wpAny_mono h (fun r s₁ q => ?_) fun _ _ e => e) hs
  obtain ⟨R, a, b, c, t, u, v, rfl, hr, hsm, q⟩ := q
  exact wpAny_pyIter_range hr hsm q
end

def kidsVals (nd : Nat → Nd) (u : Nat → Int) (j : Nat) : Nat → Nat → List Int
  | 0, _ => []
  | k + 1, o => if (nd o).parent = j then u o :: kidsVals nd u j k (o + 1) else kidsVals nd u j k (o + 1)
theorem kidsVals_head {nd : Nat → Nd} {u : Nat → Int} {j : Nat} {own : Int} : ∀ k o, ((kidsVals nd u j k o).filter (fun x => decide (x ≠ 0)) ++ [own]).head? = some (kidsOut nd u j own k o)
  | 0, _ => rfl
  | k + 1, o => by
    unfold kidsVals kidsOut
    split
    · by_cases h : u o = 0
      · rw [List.filter_cons, if_neg (by simp [h]), if_neg (fun q => q h)]
        exact kidsVals_head k (o + 1)
      · rw [List.filter_cons, if_pos (by simp [h]), if_pos h]
        rfl
    · exact kidsVals_head k (o + 1)
/-- an int that is not 0 -/
def pTrue (v : Value) : Bool := match v with | .int k _ => decide (k ≠ 0) | _ => true
def pBelow (nd : Nat → Nd) (j : Int) (v : Value) : Bool := match v with | .int k _ => decide ((nd k.toNat).parent = j) | _ => false
/-- an element of below: the out of the node that the counter names -/
def OutEl (nd : Nat → Nd) (len : Nat) (v y : Value) : Prop := ∃ k t t', v = .int k t ∧ y = .int (out nd len k.toNat) t'
theorem walks_bound {prog : Program} {w : World} {A : Around} {I : Addr} {fp wr : List Addr} {n : Nat} {P : Nat → Value → Prop} {St : Nat → Heap → Prop} (W : Walks prog w A I fp wr n P St) : Walks prog w A I fp wr n (fun i v => i < n ∧ P i v) St where
  sub := W.sub
  frame := W.frame
  item := fun i s Q E hi st hQ => W.item i s Q E hi st fun v h' tk hP => hQ v h' tk ⟨hi, hP⟩
  done := W.done
  self := W.self
theorem ints_paired {nd : Nat → Nd} {len j : Nat} : ∀ (vs : List Value) (o : Nat) (l : List Value), (∀ q v, vs[q]? = some v → ∃ t, v = Value.int ((o + q : Nat) : Int) t) → Paired (OutEl nd len) (vs.filter (pBelow nd (j : Int))) l → IntsAre l (kidsVals nd (out nd len) j vs.length o)
  | [], _, _, _, .nil => .nil
  | v :: vs, o, l, h, hp => by
    obtain ⟨t, rfl⟩ := h 0 v rfl
    have h' : ∀ q v, vs[q]? = some v → ∃ t, v = Value.int ((o + 1 + q : Nat) : Int) t := fun q v e => by
      obtain ⟨t, r⟩ := h (q + 1) v (by simpa using e)
      exact ⟨t, by rw [r, show o + (q + 1) = o + 1 + q by omega]⟩
    have e : pBelow nd (j : Int) (Value.int ((o + 0 : Nat) : Int) t) = decide ((nd o).parent = j) := rfl
    rw [List.filter_cons, e] at hp
    show IntsAre l (kidsVals nd (out nd len) j (vs.length + 1) o)
    unfold kidsVals
    by_cases q : (nd o).parent = j
    · rw [if_pos (by simpa using q)] at hp
      rw [if_pos q]
      cases hp with
      | cons a r =>
        obtain ⟨k, t1, t2, e1, e2⟩ := a
        cases e1
        subst e2
        exact .cons _ _ (ints_paired vs (o + 1) _ h' r)
    · rw [if_neg (by simpa using q)] at hp
      rw [if_neg q]
      exact ints_paired vs (o + 1) _ h' hp
theorem beq_ne {t : Tok} (x : Int) : (x != 0) = pTrue (Value.int x t) := by
  show (x != 0) = decide (x ≠ 0)
  by_cases h : x = 0
  · subst h; rfl
  · rw [decide_eq_true h]; simpa using h
theorem ints_at {ys : Array Value} {us : List Int} {k : Nat} {v : Value} (h : IntsAre ys.toList us) (e : ys[k]? = some v) : ∃ x t, v = .int x t := by
  have e' : ys.toList[k]? = some v := by simpa using e
  have hk : k < us.length := by
    rw [← h.length]
    exact (List.getElem?_eq_some_iff.mp e').1
  obtain ⟨t, q⟩ := h.get k _ (List.getElem?_eq_getElem hk)
  rw [q] at e'
  exact ⟨_, t, (Option.some.inj e').symm⟩
theorem paired_eq : ∀ {a b : List Value}, Paired (fun v y => v = y) a b → a = b
  | _, _, .nil => rfl
  | _, _, .cons h r => by rw [h, paired_eq r]
theorem ints_filter : ∀ {l : List Value} {us : List Int}, IntsAre l us → IntsAre (l.filter pTrue) (us.filter fun x => decide (x ≠ 0))
  | _, _, .nil => .nil
  | _, _, .cons x t h => by
    have r := ints_filter h
    rw [List.filter_cons, List.filter_cons]
    have e : pTrue (Value.int x t) = decide (x ≠ 0) := rfl
    rw [e]
    split
    · exact .cons _ _ r
    · exact r
theorem size_down (len : Nat) : Builtin.Range.rangeSize ((len : Int) - 1) (-1) (-1) = (len : Int) := by
  unfold Builtin.Range.rangeSize
  simp only [show ¬ ((-1 : Int) > 0) by decide, if_false, Int.neg_neg, Int.ediv_one]
  split <;> omega
theorem small_down {len : Nat} (h : len ≤ 100) : Builtin.Range.small ((len : Int) - 1) (-1) (-1) = true := by
  unfold Builtin.Range.small
  rw [size_down]
  simp only [Builtin.Range.rangeFitsLong, Bool.and_eq_true, Bool.or_eq_true, decide_eq_true_eq, beq_iff_eq, show ¬ ((-1 : Int) > 0) by decide, if_false]
  omega
/-- what holds between two turns of the loop in _law_outs: the last i outs are there -/
def OutI (nd : Nat → Nd) (len : Nat) (g : Heap) (L nl D : Addr) (i : Nat) (h : Heap) : Prop :=
  ∃ m its n us oN oO oC, Fr g L h m ∧ News g L h [(D, listOf its n), (L + 1 + 1 + 1, oN), (L + 1 + 1, oO), (L + 1, oC)] ∧ (∃ v, oN.data = .cell v) ∧ oO.data = .cell (some (.ref D)) ∧ oC.data = .cell (some (.ref nl)) ∧
    IntsAre its.toList us ∧ us.length = len ∧ ∀ k, len - i ≤ k → k < len → us[k]? = some (out nd len k)
theorem dn_ei {len i : Nat} (hi : i < len) : (len : Int) - 1 + (i : Nat) * -1 = ((len - 1 - i : Nat) : Int) := by omega
theorem dn_ej {len i : Nat} (hi : i < len) : ((len : Int) - 1 + (i : Nat) * -1).toNat = len - 1 - i := by rw [dn_ei hi]; rfl
theorem dn_0 {len i : Nat} (hi : i < len) : 0 ≤ (len : Int) - 1 + (i : Nat) * -1 := by rw [dn_ei hi]; exact Int.natCast_nonneg _
theorem dn_l {len i : Nat} (hi : i < len) : (len : Int) - 1 + (i : Nat) * -1 < (len : Int) := by rw [dn_ei hi]; exact Int.ofNat_lt.mpr (ar_8 hi)
theorem dn_small {len i : Nat} (hi : i < len) (hlen : len ≤ 100) : Builtin.Range.small ((len : Int) - 1 + (i : Nat) * -1 + 1) (len : Int) 1 = true := small_one (by omega) (by omega) (by omega) (by omega)
theorem dn_size {len i : Nat} (hi : i < len) : Builtin.Range.rangeSize ((len : Int) - 1 + (i : Nat) * -1 + 1) (len : Int) 1 = (i : Int) := by rw [rangeSize_one]; split <;> omega
theorem dn_ek {len i : Nat} (hi : i < len) (k : Nat) : (len : Int) - 1 + (i : Nat) * -1 + 1 + (k : Nat) * 1 = ((len - 1 - i + 1 + k : Nat) : Int) := by rw [dn_ei hi, Int.mul_one]; rfl
theorem dn_k {len i k : Nat} (hi : i < len) (hk : k < i) : len - 1 - i + 1 + k < len ∧ len - i ≤ len - 1 - i + 1 + k := by omega
theorem dn_k0 {len i : Nat} (hi : i < len) (k : Nat) : 0 ≤ (len : Int) - 1 + (i : Nat) * -1 + 1 + (k : Nat) * 1 := by rw [dn_ek hi]; exact Int.natCast_nonneg _
theorem dn_k1 {len i k : Nat} (hi : i < len) (hk : k < i) : (len : Int) - 1 + (i : Nat) * -1 + 1 + (k : Nat) * 1 < (len : Int) := by rw [dn_ek hi]; exact Int.ofNat_lt.mpr (dn_k hi hk).1
theorem dn_n0 {len i k : Nat} (hi : i < len) (hk : k < i) : len - i ≤ ((len : Int) - 1 + (i : Nat) * -1 + 1 + (k : Nat) * 1).toNat := by rw [dn_ek hi]; exact (dn_k hi hk).2
theorem dn_n1 {len i k : Nat} (hi : i < len) (hk : k < i) : ((len : Int) - 1 + (i : Nat) * -1 + 1 + (k : Nat) * 1).toNat < len := by rw [dn_ek hi]; exact (dn_k hi hk).1
theorem out_turn {nd : Nat → Nd} {len i : Nat} (hi : i < len) : out nd len (len - 1 - i) = if (nd (len - 1 - i)).early ≠ 0 then (nd (len - 1 - i)).early else if (nd (len - 1 - i)).late ≠ 0 then (nd (len - 1 - i)).late else
    if (List.filter (fun x => decide (x ≠ 0)) (kidsVals nd (out nd len) (len - 1 - i) i (len - 1 - i + 1)) ++ [(nd (len - 1 - i)).own]).getD (Int.toNat 0) 0 = 1 then 0
      else (List.filter (fun x => decide (x ≠ 0)) (kidsVals nd (out nd len) (len - 1 - i) i (len - 1 - i + 1)) ++ [(nd (len - 1 - i)).own]).getD (Int.toNat 0) 0 := by
  have h : (List.filter (fun x => decide (x ≠ 0)) (kidsVals nd (out nd len) (len - 1 - i) i (len - 1 - i + 1)) ++ [(nd (len - 1 - i)).own]).getD (Int.toNat 0) 0 = kidsOut nd (out nd len) (len - 1 - i) (nd (len - 1 - i)).own i (len - 1 - i + 1) := by
    have := kidsVals_head (nd := nd) (u := out nd len) (j := len - 1 - i) (own := (nd (len - 1 - i)).own) i (len - 1 - i + 1)
    rw [List.head?_eq_getElem?] at this
    rw [List.getD_eq_getElem?_getD, show Int.toNat 0 = 0 from rfl, this]
    rfl
  rw [out_step (ar_8 hi), h]
  unfold stepOut
  rw [ar_6 hi]
section
variable {prog : Program} {w : World} {A : Around} {E : Value → Shared → Prop} {s : Shared} {g : Heap} {L it D nl : Addr} {m : Str → Option Value} {rest : List (Addr × Obj)} {oI : Obj} {its : Array Value} {n : Nat} {us : List Int} {k x : Int} {t u : Tok}
theorem outs_turn {Q : Unit → Shared → Prop} (F : Fr g L s.heap m) (N : News g L s.heap ((it, oI) :: (D, listOf its n) :: rest)) (h1 : it ≠ D) (h2 : ∀ p ∈ rest, p.1 ≠ D) (hi : IntsAre its.toList us) (h0 : 0 ≤ k) (hk : k < us.length) (hf : k < 2 ^ 63)
    (h : ∀ h', Fr g L h' m → News g L h' ((it, oI) :: (D, listOf (its.toList.set k.toNat (.int x u)).toArray n) :: rest) → IntsAre (its.toList.set k.toNat (.int x u)) (us.set k.toNat x) → Q () { s with heap := h' }) :
    wpAny (model prog w) A (setItem (.ref D) (.int k t) (.int x u)) Q E s :=
  ksa_set (vs := its.toList) F N (.tail h1 (.head h2)) hi h0 hk hf fun h' F' N' I _ _ => h h' F' N' I
theorem outs_next {nd : Nat → Nd} {len i : Nat} {h : Heap} {oN oO oC : Obj} (hi : i < len) (F : Fr g L h m) (N : News g L h [(it, oI), (D, listOf (its.toList.set k.toNat (.int x u)).toArray n), (L + 1 + 1 + 1, oN), (L + 1 + 1, oO), (L + 1, oC)])
    (dN : ∃ v, oN.data = .cell v) (dO : oO.data = .cell (some (.ref D))) (dC : oC.data = .cell (some (.ref nl))) (I : IntsAre (its.toList.set k.toNat (.int x u)) (us.set k.toNat x)) (r2 : us.length = len)
    (r3 : ∀ k, len - i ≤ k → k < len → us[k]? = some (out nd len k)) (ej : k.toNat = len - 1 - i) (hx : x = out nd len (len - 1 - i)) : OutI nd len g L nl D (i + 1) h := by
  refine ⟨m, _, n, us.set k.toNat x, oN, oO, oC, F, fun q hq => N q (List.mem_cons_of_mem _ hq), dN, dO, dC, I, by rw [List.length_set]; exact r2, fun q h1 h2 => ?_⟩
  rw [List.getElem?_set, ej]
  split
  · rename_i e
    rw [if_pos (by omega), ← e, hx]
  · exact r3 q (ar_5 hi h1 ‹_›) h2
end
section
local macro_rules | `(tactic| k_lt $h) => `(tactic| (replace $h := lt_head $h))
section
variable {prog : Program} {w : World} {p : Program} {loose : List Str} {mean : ExcName → Option Value} {mg mb : Str → Option Value} {B : Heap} {nd : Nat → Nd} {len : Nat}
theorem outs_spec (b : Base w p loose mean mg mb B) (hok : ∀ i, i < len → (nd i).Ok) (hlen : len ≤ 100)
    {A : Around} {outer : List Env} {s : Shared} {Q E : Value → Shared → Prop} {nl : Addr} (hst : A.frames = some outer) (hB : B.StaysIn s.heap) (hff : s.heap.FunFrames B outer) (hA : A.handled = none)
    (hroom : A.depth + 20 < recursionLimit) (hun : A.units + 200 < cLine) (hN : NodesIs s.heap nl nd len)
    (ret : ∀ h' tk' ou, (∀ b o, s.heap.get? b = some o → h'.get? b = some o) → s.heap.get? ou = none → OutsIs h' ou len (out nd len) → Q (.ref ou) { s with heap := h', toks := tk' }) :
    wpAny (model prog w) A (call (.ref 89) [.ref nl]) Q E s := by
  have ff : PySem.Challenge.rw_kl0226_01 = PySem.Challenge.rw_kl0226_01 ∧ hd.heap_39 = hd.heap_39 := by
    k_fill
    exact ⟨rfl, rfl⟩
  clear ff
  obtain ⟨hd, dp, fr, gd, un⟩ := A
  cases hst
  dsimp only at hA hroom hun
  subst hA
  have X₀ := b.X.keeps hB
  have hop : Open B outer s.heap [] := fun _ h => nomatch h
  refine' enterC_k (B := B) (binds := [(Str.ofString "nodes", .ref nl)]) [] rfl hB hff hop b.T.nolimit ?k1 ?k2 ?k3 ?k4 ?k5 ?k6 ?k7 ?_ ?k8 ?k9 ?k10
  case k1 => exact X₀ _ _ (by k_is)
  case k2 => exact rfl
  case k3 => exact codeRec_of X₀ (by k_is)
  case k4 => exact Nat.lt_of_le_of_lt (Nat.le_add_right _ _) hroom
  case k5 => exact BindsTo.of_eq rfl
  case k6 => exact rfl
  case k7 => decide +kernel
  case k8 => exact rfl
  case k9 => exact rfl
  case k10 => exact rfl
  intro g L h₁ tk₁ cells hg hL F N Y Bw
  have X' := b.X.keeps Bw.stays
  have T' := b.T.keeps Bw.stays
  have C' := b.C.keeps Bw.stays
  have hg' : ∀ b o, s.heap.get? b = some o → g.get? b = some o := fun b o q => hg ▸ q
  have hN' : NodesIs g nl nd len := hN.imp fun b o ho _ _ => ⟨o.slots, hg' b o ho⟩
  obtain ⟨o1', o2', o3', hE', d1', d2', d3'⟩ := CellsAre.three Y
  subst hE'
  clear Y
  simp only [List.cons_append, List.nil_append] at N
  have d3 : o3'.data = .cell (some (.ref nl)) := d3'
  change wpAny _ _ _ _ _ _
  k_fold
  have nb : ∀ b, g.get? b = none → s.heap.get? b = none := fun b q => by
    cases e : s.heap.get? b with
    | none => rfl
    | some o => rw [hg' b o e] at q; cases q
  repeat' (first | ((with_reducible show wpAny _ _ (call (Value.type "range") _) _ _ _); k_dflt (refine' range_K ?q9F ?q9N ?_; (case q9F => k_asm); (case q9N => k_asm); k_whole); intro _ _ _ _ _ _) | ((with_reducible show wpAny _ _ (call (Value.builtin "len") _) _ _ _); k_dflt (refine' nodes_len ?q9F ?q9N ?q9l ?_; (case q9F => k_asm); (case q9N => assumption); (case q9l => assumption); k_whole)) | ((with_reducible show wpAny _ _ (exec (Stmt.For _ _ _ _ _) _) _ _ _); refine hold_For ?_) | ((with_reducible show wpAny _ _ (subscriptTail _ _ (Value.ref _) (Value.int 0 _)) _ _ _); k_dflt (refine' nd_item ?q9F ?q9N ?_ ?q9hs; (case q9F => k_asm); (case q9N => assumption); (case q9hs => with_unfolding_all rfl); k_whole); intro _) | ((with_reducible show wpAny _ _ (subscriptTail _ _ (Value.ref _) (Value.int _ _)) _ _ _); k_dflt (refine' nodes_item ?q9F ?q9N ?q9k0 ?q9k1 ?q9l ?_ ?q9hs; (case q9F => k_asm); (case q9N => assumption); (case q9k0 => first | exact Int.natCast_nonneg _ | with_reducible assumption | omega); (case q9k1 => first | exact Int.ofNat_lt.mpr (by with_reducible assumption) | with_reducible assumption | omega); (case q9l => assumption); (case q9hs => with_unfolding_all rfl); k_whole); intro _ _) | ((with_reducible show wpAny _ _ (assign (Expr.Tuple _ _ _) _ (Value.ref _)) _ _ _); k_dflt (refine' nd_unpack ?q9F ?q9N ?q9D ?q9k1 ?q9k2 ?q9k3 ?_; (case q9F => k_asm); (case q9N => k_asm); (case q9D => assumption); (case q9k1 => exact rfl); (case q9k2 => exact rfl); (case q9k3 => exact rfl)); intro _ _ _ _ _ _ _ _ _ _) | ((with_reducible show wpAny _ _ (eval (Expr.ListComp _ _ _ _) _) _ _ _); refine held_out ?_) | ((with_reducible show wpAny _ _ (binaryOp Operator.Add (Value.ref _) (Value.ref _)) _ _ _); refine held_out ?_) | ((with_reducible show wpAny _ _ (exec (Stmt.Assign [_] (Expr.ListComp _ _ _ _) _) _) _ _ _); refine held_out ?_) | ((with_reducible show wpAny _ _ (pyIter (Value.ref _)) _ _ _); refine held_out ?_) | ((with_reducible show wpAny _ _ (eval (Expr.Name _ _) _) _ _ _); k_dflt (refine' wpAny_Name (wpAny_loadName_local ?q9a ?q9b ?q9n ?q9m ?_) ?q9d; (case q9a => rfl); (case q9b => rfl); (case q9n => assumption); (case q9m => assumption); (case q9d => decide); k_whole)) | (k_unfold; (try dsimp only)) | (k_end; wrow_close) | walk1 | (dsimp only; walk1) | (leave1; try dsimp only) | fail "no step")
  rename_i l0 hA1 ltA D hA2 i1 n1 s1 e1 e2 e3 ltB h₂ oO F₂ N₂ dO
  refine held (For_rangeC ?_)
  change wpAny _ _ _ _ _ _
  try k_fold
  repeat' (first | ((with_reducible show wpAny _ _ (call (Value.type "range") _) _ _ _); k_dflt (refine' range_K ?q9F ?q9N ?_; (case q9F => k_asm); (case q9N => k_asm); k_whole); intro _ _ _ _ _ _) | ((with_reducible show wpAny _ _ (call (Value.builtin "len") _) _ _ _); k_dflt (refine' nodes_len ?q9F ?q9N ?q9l ?_; (case q9F => k_asm); (case q9N => assumption); (case q9l => assumption); k_whole)) | ((with_reducible show wpAny _ _ (exec (Stmt.For _ _ _ _ _) _) _ _ _); refine hold_For ?_) | ((with_reducible show wpAny _ _ (subscriptTail _ _ (Value.ref _) (Value.int 0 _)) _ _ _); k_dflt (refine' nd_item ?q9F ?q9N ?_ ?q9hs; (case q9F => k_asm); (case q9N => assumption); (case q9hs => with_unfolding_all rfl); k_whole); intro _) | ((with_reducible show wpAny _ _ (subscriptTail _ _ (Value.ref _) (Value.int _ _)) _ _ _); k_dflt (refine' nodes_item ?q9F ?q9N ?q9k0 ?q9k1 ?q9l ?_ ?q9hs; (case q9F => k_asm); (case q9N => assumption); (case q9k0 => first | exact Int.natCast_nonneg _ | with_reducible assumption | omega); (case q9k1 => first | exact Int.ofNat_lt.mpr (by with_reducible assumption) | with_reducible assumption | omega); (case q9l => assumption); (case q9hs => with_unfolding_all rfl); k_whole); intro _ _) | ((with_reducible show wpAny _ _ (assign (Expr.Tuple _ _ _) _ (Value.ref _)) _ _ _); k_dflt (refine' nd_unpack ?q9F ?q9N ?q9D ?q9k1 ?q9k2 ?q9k3 ?_; (case q9F => k_asm); (case q9N => k_asm); (case q9D => assumption); (case q9k1 => exact rfl); (case q9k2 => exact rfl); (case q9k3 => exact rfl)); intro _ _ _ _ _ _ _ _ _ _) | ((with_reducible show wpAny _ _ (eval (Expr.ListComp _ _ _ _) _) _ _ _); refine held_out ?_) | ((with_reducible show wpAny _ _ (binaryOp Operator.Add (Value.ref _) (Value.ref _)) _ _ _); refine held_out ?_) | ((with_reducible show wpAny _ _ (exec (Stmt.Assign [_] (Expr.ListComp _ _ _ _) _) _) _ _ _); refine held_out ?_) | ((with_reducible show wpAny _ _ (pyIter (Value.ref _)) _ _ _); refine held_out ?_) | ((with_reducible show wpAny _ _ (eval (Expr.Name _ _) _) _ _ _); k_dflt (refine' wpAny_Name (wpAny_loadName_local ?q9a ?q9b ?q9n ?q9m ?_) ?q9d; (case q9a => rfl); (case q9b => rfl); (case q9n => assumption); (case q9m => assumption); (case q9d => decide); k_whole)) | (k_unfold; (try dsimp only)) | (k_end; wrow_close) | walk1 | (dsimp only; walk1) | (leave1; try dsimp only) | fail "no step")
  rename_i h₃ tk₃ t1 u1 v1 hr F₃ N₃ kp₃
  refine held ⟨_, _, _, _, _, _, _, rfl, hr, small_down hlen, ?_⟩
  rw [size_down]
  have hit0 : g.get? h₃.objs.size = none := Heap.get?_none_of_le (Nat.le_trans F₃.above (Nat.le_of_lt F₃.ns.lt))
  have hIL : h₃.objs.size ≠ L := Nat.ne_of_gt F₃.ns.lt
  have kp₄ : ∀ b o, h₃.get? b = some o → (h₃.push (iterObj ((len : Int) - 1) (len : Int) (-1))).get? b = some o := fun b o q => Heap.get?_push_of_some _ q
  have llD : @LT.lt Nat _ (L + 1 + 1 + 1) D := by omega
  have llI : @LT.lt Nat _ D h₃.objs.size := Heap.lt_size (N₃ _ (List.Mem.head _)).1
  refine range_loopA (n := len) (a := (len : Int) - 1) (c := -1) (fun i h => OutI nd len g L nl D i h) rfl ?h0 (Heap.get?_push_size _ rfl) ?hJ ?step ?hR
  case h0 =>
    refine ⟨_, (List.replicate (len : Int).toNat [Value.int 0 tk₁]).flatten.toArray, 0, (List.replicate len 0), o1', oO, o3', Fr.on F₃ kp₄, fun q hq => ?_, ⟨_, d1'⟩, dO, d3, ?_, by simp, fun k h1 h2 => absurd h2 (Nat.not_lt.mpr h1)⟩
    · have N4 : ∀ q ∈ [(D, W.listOf (List.replicate (len : Int).toNat [Value.int 0 tk₁]).flatten.toArray 0), (L + 1 + 1 + 1, o1'), (L + 1 + 1, oO), (L + 1, o3')], h₃.get? q.1 = some q.2 ∧ q.1 ≠ L ∧ g.get? q.1 = none := fun q hq => by
        rcases List.mem_cons.mp hq with rfl | hq
        · exact N₃ _ (List.Mem.head _)
        · exact N₃ _ (List.Mem.tail _ (List.Mem.tail _ hq))
      exact ⟨kp₄ _ _ (N4 q hq).1, (N4 q hq).2⟩
    · have e9 : (List.replicate (len : Int).toNat [(0 : Int)]).flatten = List.replicate len 0 := by
        rw [Int.toNat_natCast]
        simp [List.flatten_replicate_singleton]
      rw [← e9]
      exact i1
  case hJ =>
    rintro i h h' ⟨m, its, n, us, oN, oO', oC, F', N', dN, dO', dC, r1, r2, r3⟩ ⟨o, vs, o1, o2, o3⟩ hx'
    refine ⟨m, its, n, us, oN, oO', oC, ⟨F'.ns.extBut hx' hIL.symm, fun b o e => hx' b o (fun q => by rw [q, hit0] at e; cases e) (F'.keep b o e), F'.above⟩, fun q hq => ⟨hx' _ _ (fun z => ?_) (N' q hq).1, (N' q hq).2⟩, dN, dO', dC, r1, r2, r3⟩
    have z1 := (N' q hq).1
    rw [z, o1] at z1
    have z2 := Option.some.inj z1
    rcases List.mem_cons.mp hq with rfl | hq
    · rw [z2] at o2; cases o2
    · rcases List.mem_cons.mp hq with rfl | hq
      · obtain ⟨v, dN⟩ := dN
        rw [z2, dN] at o2; cases o2
      · rcases List.mem_cons.mp hq with rfl | hq
        · rw [z2, dO'] at o2; cases o2
        · cases List.mem_singleton.mp hq
          rw [z2, dC] at o2; cases o2
  case hR =>
    rintro h₄ tk₄ ⟨m, its, n, us, oN, oO', oC, F', N', dN, dO', dC, r1, r2, r3⟩
    clear F₃ N₃
    change wpAny _ _ _ _ _ _
    try k_fold
    repeat' (first | ((with_reducible show wpAny _ _ (call (Value.type "range") _) _ _ _); k_dflt (refine' range_K ?q9F ?q9N ?_; (case q9F => k_asm); (case q9N => k_asm); k_whole); intro _ _ _ _ _ _) | ((with_reducible show wpAny _ _ (call (Value.builtin "len") _) _ _ _); k_dflt (refine' nodes_len ?q9F ?q9N ?q9l ?_; (case q9F => k_asm); (case q9N => assumption); (case q9l => assumption); k_whole)) | ((with_reducible show wpAny _ _ (exec (Stmt.For _ _ _ _ _) _) _ _ _); refine hold_For ?_) | ((with_reducible show wpAny _ _ (subscriptTail _ _ (Value.ref _) (Value.int 0 _)) _ _ _); k_dflt (refine' nd_item ?q9F ?q9N ?_ ?q9hs; (case q9F => k_asm); (case q9N => assumption); (case q9hs => with_unfolding_all rfl); k_whole); intro _) | ((with_reducible show wpAny _ _ (subscriptTail _ _ (Value.ref _) (Value.int _ _)) _ _ _); k_dflt (refine' nodes_item ?q9F ?q9N ?q9k0 ?q9k1 ?q9l ?_ ?q9hs; (case q9F => k_asm); (case q9N => assumption); (case q9k0 => first | exact Int.natCast_nonneg _ | with_reducible assumption | omega); (case q9k1 => first | exact Int.ofNat_lt.mpr (by with_reducible assumption) | with_reducible assumption | omega); (case q9l => assumption); (case q9hs => with_unfolding_all rfl); k_whole); intro _ _) | ((with_reducible show wpAny _ _ (assign (Expr.Tuple _ _ _) _ (Value.ref _)) _ _ _); k_dflt (refine' nd_unpack ?q9F ?q9N ?q9D ?q9k1 ?q9k2 ?q9k3 ?_; (case q9F => k_asm); (case q9N => k_asm); (case q9D => assumption); (case q9k1 => exact rfl); (case q9k2 => exact rfl); (case q9k3 => exact rfl)); intro _ _ _ _ _ _ _ _ _ _) | ((with_reducible show wpAny _ _ (eval (Expr.ListComp _ _ _ _) _) _ _ _); refine held_out ?_) | ((with_reducible show wpAny _ _ (binaryOp Operator.Add (Value.ref _) (Value.ref _)) _ _ _); refine held_out ?_) | ((with_reducible show wpAny _ _ (exec (Stmt.Assign [_] (Expr.ListComp _ _ _ _) _) _) _ _ _); refine held_out ?_) | ((with_reducible show wpAny _ _ (pyIter (Value.ref _)) _ _ _); refine held_out ?_) | ((with_reducible show wpAny _ _ (eval (Expr.Name _ _) _) _ _ _); k_dflt (refine' wpAny_Name (wpAny_loadName_local ?q9a ?q9b ?q9n ?q9m ?_) ?q9d; (case q9a => rfl); (case q9b => rfl); (case q9n => assumption); (case q9m => assumption); (case q9d => decide); k_whole)) | (k_unfold; (try dsimp only)) | (k_end; wrow_close) | walk1 | (dsimp only; walk1) | (leave1; try dsimp only) | fail "no step")
    refine ret _ _ D (fun b o q => F'.keep b o (hg' b o q)) (nb _ (N' _ (List.Mem.head _)).2.2) ⟨its, ⟨_, (N' _ (List.Mem.head _)).1, rfl, n, rfl⟩, ?_, fun k hk => ?_⟩
    · have := r1.length
      rw [Array.length_toList] at this
      exact this.trans r2
    · obtain ⟨t, hx⟩ := r1.get k _ (r3 k (by rw [Nat.sub_self]; exact Nat.zero_le _) hk)
      exact ⟨t, by simpa using hx⟩
  case step =>
    rintro i tk s₁ hi ⟨m, its, n, us, oN, oO', oC, F', N', ⟨vN, dN⟩, dO', dC, r1, r2, r3⟩ hit₁ ⟨h₅, tk₅, rfl⟩
    refine wpAny_passesOwn (Thrown.passes rfl rfl) ?_
    have N'' : News g L h₅ [(h₃.objs.size, iterObj ((len : Int) - 1 + (i : Nat) * -1 + -1) ((len : Int) - (i : Nat) - 1) (-1)), (D, W.listOf its n), (L + 1 + 1 + 1, oN), (L + 1 + 1, oO'), (L + 1, oC)] := fun q hq => by
      rcases List.mem_cons.mp hq with rfl | hq
      · exact ⟨hit₁, hIL, hit0⟩
      · exact N' q hq
    have k0 := dn_0 hi
    have k1 := dn_l hi
    clear F₃ N₃ N'
    change wpAny _ _ _ _ _ _
    try k_fold
    repeat' (first | ((with_reducible show wpAny _ _ (call (Value.type "range") _) _ _ _); k_dflt (refine' range_K ?q9F ?q9N ?_; (case q9F => k_asm); (case q9N => k_asm); k_whole); intro _ _ _ _ _ _) | ((with_reducible show wpAny _ _ (call (Value.builtin "len") _) _ _ _); k_dflt (refine' nodes_len ?q9F ?q9N ?q9l ?_; (case q9F => k_asm); (case q9N => assumption); (case q9l => assumption); k_whole)) | ((with_reducible show wpAny _ _ (exec (Stmt.For _ _ _ _ _) _) _ _ _); refine hold_For ?_) | ((with_reducible show wpAny _ _ (subscriptTail _ _ (Value.ref _) (Value.int 0 _)) _ _ _); k_dflt (refine' nd_item ?q9F ?q9N ?_ ?q9hs; (case q9F => k_asm); (case q9N => assumption); (case q9hs => with_unfolding_all rfl); k_whole); intro _) | ((with_reducible show wpAny _ _ (subscriptTail _ _ (Value.ref _) (Value.int _ _)) _ _ _); k_dflt (refine' nodes_item ?q9F ?q9N ?q9k0 ?q9k1 ?q9l ?_ ?q9hs; (case q9F => k_asm); (case q9N => assumption); (case q9k0 => first | exact Int.natCast_nonneg _ | with_reducible assumption | omega); (case q9k1 => first | exact Int.ofNat_lt.mpr (by with_reducible assumption) | with_reducible assumption | omega); (case q9l => assumption); (case q9hs => with_unfolding_all rfl); k_whole); intro _ _) | ((with_reducible show wpAny _ _ (assign (Expr.Tuple _ _ _) _ (Value.ref _)) _ _ _); k_dflt (refine' nd_unpack ?q9F ?q9N ?q9D ?q9k1 ?q9k2 ?q9k3 ?_; (case q9F => k_asm); (case q9N => k_asm); (case q9D => assumption); (case q9k1 => exact rfl); (case q9k2 => exact rfl); (case q9k3 => exact rfl)); intro _ _ _ _ _ _ _ _ _ _) | ((with_reducible show wpAny _ _ (eval (Expr.ListComp _ _ _ _) _) _ _ _); refine held_out ?_) | ((with_reducible show wpAny _ _ (binaryOp Operator.Add (Value.ref _) (Value.ref _)) _ _ _); refine held_out ?_) | ((with_reducible show wpAny _ _ (exec (Stmt.Assign [_] (Expr.ListComp _ _ _ _) _) _) _ _ _); refine held_out ?_) | ((with_reducible show wpAny _ _ (pyIter (Value.ref _)) _ _ _); refine held_out ?_) | ((with_reducible show wpAny _ _ (eval (Expr.Name _ _) _) _ _ _); k_dflt (refine' wpAny_Name (wpAny_loadName_local ?q9a ?q9b ?q9n ?q9m ?_) ?q9d; (case q9a => rfl); (case q9b => rfl); (case q9n => assumption); (case q9m => assumption); (case q9d => decide); k_whole)) | (k_unfold; (try dsimp only)) | (k_end; wrow_close) | walk1 | (dsimp only; walk1) | (leave1; try dsimp only) | fail "no step")
    rename_i h6 oN' dN' tn hnd t1 t2 t3 x₀ t5 t6 h7 xi h8 h9 hA hB' hC hD F₅ N₅
    have ei := dn_ei hi
    have ej := dn_ej hi
    rw [ej] at hnd xi
    refine held ?_
    refine' wpAny_Assign_ListComp_free (pBelow nd ((len - 1 - i : Nat) : Int)) (OutEl nd len) ?u1 ?u2 ?u3 ?u4 ?u5 ?u6 ?u7 ?u8 ?u9
    case u1 => rfl
    case u2 => exact rfl
    case u3 => decide
    case u4 => rfl
    case u5 => decide
    case u6 => rfl
    case u7 => rfl
    case u8 => rfl
    case u9 =>
      change wpAny _ _ _ _ _ _
      try k_fold
      repeat' (first | ((with_reducible show wpAny _ _ (call (Value.type "range") _) _ _ _); k_dflt (refine' range_K ?q9F ?q9N ?_; (case q9F => k_asm); (case q9N => k_asm); k_whole); intro _ _ _ _ _ _) | ((with_reducible show wpAny _ _ (call (Value.builtin "len") _) _ _ _); k_dflt (refine' nodes_len ?q9F ?q9N ?q9l ?_; (case q9F => k_asm); (case q9N => assumption); (case q9l => assumption); k_whole)) | ((with_reducible show wpAny _ _ (exec (Stmt.For _ _ _ _ _) _) _ _ _); refine hold_For ?_) | ((with_reducible show wpAny _ _ (subscriptTail _ _ (Value.ref _) (Value.int 0 _)) _ _ _); k_dflt (refine' nd_item ?q9F ?q9N ?_ ?q9hs; (case q9F => k_asm); (case q9N => assumption); (case q9hs => with_unfolding_all rfl); k_whole); intro _) | ((with_reducible show wpAny _ _ (subscriptTail _ _ (Value.ref _) (Value.int _ _)) _ _ _); k_dflt (refine' nodes_item ?q9F ?q9N ?q9k0 ?q9k1 ?q9l ?_ ?q9hs; (case q9F => k_asm); (case q9N => assumption); (case q9k0 => first | exact Int.natCast_nonneg _ | with_reducible assumption | omega); (case q9k1 => first | exact Int.ofNat_lt.mpr (by with_reducible assumption) | with_reducible assumption | omega); (case q9l => assumption); (case q9hs => with_unfolding_all rfl); k_whole); intro _ _) | ((with_reducible show wpAny _ _ (assign (Expr.Tuple _ _ _) _ (Value.ref _)) _ _ _); k_dflt (refine' nd_unpack ?q9F ?q9N ?q9D ?q9k1 ?q9k2 ?q9k3 ?_; (case q9F => k_asm); (case q9N => k_asm); (case q9D => assumption); (case q9k1 => exact rfl); (case q9k2 => exact rfl); (case q9k3 => exact rfl)); intro _ _ _ _ _ _ _ _ _ _) | ((with_reducible show wpAny _ _ (eval (Expr.ListComp _ _ _ _) _) _ _ _); refine held_out ?_) | ((with_reducible show wpAny _ _ (binaryOp Operator.Add (Value.ref _) (Value.ref _)) _ _ _); refine held_out ?_) | ((with_reducible show wpAny _ _ (exec (Stmt.Assign [_] (Expr.ListComp _ _ _ _) _) _) _ _ _); refine held_out ?_) | ((with_reducible show wpAny _ _ (pyIter (Value.ref _)) _ _ _); refine held_out ?_) | ((with_reducible show wpAny _ _ (eval (Expr.Name _ _) _) _ _ _); k_dflt (refine' wpAny_Name (wpAny_loadName_local ?q9a ?q9b ?q9n ?q9m ?_) ?q9d; (case q9a => rfl); (case q9b => rfl); (case q9n => assumption); (case q9m => assumption); (case q9d => decide); k_whole)) | (k_unfold; (try dsimp only)) | (k_end; wrow_close) | walk1 | (dsimp only; walk1) | (leave1; try dsimp only) | fail "no step")
      rename_i r v' h₆ tk₆ F₆ N₆
      refine held ?_
      refine wpAny_pyIter_range (N₆ _ (List.Mem.head _)).1 (dn_small hi hlen) ?_
      rw [dn_size hi]
      have hline : sizeLine = 16777216 := by decide
      refine ⟨_, [h₆.objs.size], [h₆.objs.size], i, _, _, _, rfl, walks_bound (Walks.range rfl _ ((len : Int) - 1 + (i : Nat) * -1 + 1) 1 i), le_line (Nat.le_of_lt hi) hlen, by simpa using Heap.get?_push_size h₆ rfl, fun z hz => ?_, fun hz => ?_, F₆.ns.push _, ⟨?_, ?_⟩, ?_⟩
      · cases List.mem_singleton.mp hz
        simp [Heap.size_push]
      · have := List.mem_singleton.mp hz
        exact absurd F₆.ns.lt (by rw [show h₆.objs.size = L from this.symm]; exact Nat.lt_irrefl _)
      · intro C k v s₃ m₃ E' hC hP hns hm hk ht
        obtain ⟨hki, t, rfl⟩ := hP
        have j0 := dn_k0 hi k
        have j1 := dn_k1 hi hki
        have j2 : (len : Int) - 1 + (i : Nat) * -1 + 1 + (k : Nat) * 1 < (us.length : Int) := by rw [r2]; exact j1
        have j3 := lt_63 j1 hlen
        have kp₇ : ∀ b o, h₆.get? b = some o → s₃.heap.get? b = some o := fun b o q => hk b o (fun z => absurd (Heap.lt_size q) (by rw [List.mem_singleton.mp z]; exact Nat.lt_irrefl _)) (Heap.get?_push_of_some _ q)
        have F₇ := Fr.on F₆ kp₇
        have N₇ : News g L s₃.heap _ := fun q hq => ⟨kp₇ _ _ (N₆ q hq).1, (N₆ q hq).2⟩
        refine wpAny_tests_one ?_
        change wpAny _ _ _ _ _ _
        repeat' (first | ((with_reducible show wpAny _ _ (call (Value.type "range") _) _ _ _); k_dflt (refine' range_K ?q9F ?q9N ?_; (case q9F => k_asm); (case q9N => k_asm); k_whole); intro _ _ _ _ _ _) | ((with_reducible show wpAny _ _ (call (Value.builtin "len") _) _ _ _); k_dflt (refine' nodes_len ?q9F ?q9N ?q9l ?_; (case q9F => k_asm); (case q9N => assumption); (case q9l => assumption); k_whole)) | ((with_reducible show wpAny _ _ (exec (Stmt.For _ _ _ _ _) _) _ _ _); refine hold_For ?_) | ((with_reducible show wpAny _ _ (subscriptTail _ _ (Value.ref _) (Value.int 0 _)) _ _ _); k_dflt (refine' nd_item ?q9F ?q9N ?_ ?q9hs; (case q9F => k_asm); (case q9N => assumption); (case q9hs => with_unfolding_all rfl); k_whole); intro _) | ((with_reducible show wpAny _ _ (subscriptTail _ _ (Value.ref _) (Value.int _ _)) _ _ _); k_dflt (refine' nodes_item ?q9F ?q9N ?q9k0 ?q9k1 ?q9l ?_ ?q9hs; (case q9F => k_asm); (case q9N => assumption); (case q9k0 => first | exact Int.natCast_nonneg _ | with_reducible assumption | omega); (case q9k1 => first | exact Int.ofNat_lt.mpr (by with_reducible assumption) | with_reducible assumption | omega); (case q9l => assumption); (case q9hs => with_unfolding_all rfl); k_whole); intro _ _) | ((with_reducible show wpAny _ _ (assign (Expr.Tuple _ _ _) _ (Value.ref _)) _ _ _); k_dflt (refine' nd_unpack ?q9F ?q9N ?q9D ?q9k1 ?q9k2 ?q9k3 ?_; (case q9F => k_asm); (case q9N => k_asm); (case q9D => assumption); (case q9k1 => exact rfl); (case q9k2 => exact rfl); (case q9k3 => exact rfl)); intro _ _ _ _ _ _ _ _ _ _) | ((with_reducible show wpAny _ _ (eval (Expr.ListComp _ _ _ _) _) _ _ _); refine held_out ?_) | ((with_reducible show wpAny _ _ (binaryOp Operator.Add (Value.ref _) (Value.ref _)) _ _ _); refine held_out ?_) | ((with_reducible show wpAny _ _ (exec (Stmt.Assign [_] (Expr.ListComp _ _ _ _) _) _) _ _ _); refine held_out ?_) | ((with_reducible show wpAny _ _ (pyIter (Value.ref _)) _ _ _); refine held_out ?_) | ((with_reducible show wpAny _ _ (eval (Expr.Name _ _) _) _ _ _); k_dflt (refine' wpAny_Name (wpAny_loadName_local ?q9a ?q9b ?q9n ?q9m ?_) ?q9d; (case q9a => rfl); (case q9b => rfl); (case q9n => assumption); (case q9m => assumption); (case q9d => decide); k_whole)) | (k_unfold; (try dsimp only)) | (k_end; wrow_close) | walk1 | (dsimp only; walk1) | (leave1; try dsimp only) | fail "no step")
        · first | exact ⟨_, _, rfl, fun _ _ e => e⟩ | (show decide (_ = _) = decide (_ = _); rw [ei])
        · first | exact ⟨_, _, rfl, fun _ _ e => e⟩ | (show decide (_ = _) = decide (_ = _); rw [ei])
      · intro C k v s₃ m₃ E' hC hP hpv hns hm hk ht
        obtain ⟨hki, t, rfl⟩ := hP
        have j0 := dn_k0 hi k
        have j1 := dn_k1 hi hki
        have j2 : (len : Int) - 1 + (i : Nat) * -1 + 1 + (k : Nat) * 1 < (us.length : Int) := by rw [r2]; exact j1
        have j3 := lt_63 j1 hlen
        have kp₇ : ∀ b o, h₆.get? b = some o → s₃.heap.get? b = some o := fun b o q => hk b o (fun z => absurd (Heap.lt_size q) (by rw [List.mem_singleton.mp z]; exact Nat.lt_irrefl _)) (Heap.get?_push_of_some _ q)
        have F₇ := Fr.on F₆ kp₇
        have N₇ : News g L s₃.heap _ := fun q hq => ⟨kp₇ _ _ (N₆ q hq).1, (N₆ q hq).2⟩
        change wpAny _ _ _ _ _ _
        repeat' (first | ((with_reducible show wpAny _ _ (call (Value.type "range") _) _ _ _); k_dflt (refine' range_K ?q9F ?q9N ?_; (case q9F => k_asm); (case q9N => k_asm); k_whole); intro _ _ _ _ _ _) | ((with_reducible show wpAny _ _ (call (Value.builtin "len") _) _ _ _); k_dflt (refine' nodes_len ?q9F ?q9N ?q9l ?_; (case q9F => k_asm); (case q9N => assumption); (case q9l => assumption); k_whole)) | ((with_reducible show wpAny _ _ (exec (Stmt.For _ _ _ _ _) _) _ _ _); refine hold_For ?_) | ((with_reducible show wpAny _ _ (subscriptTail _ _ (Value.ref _) (Value.int 0 _)) _ _ _); k_dflt (refine' nd_item ?q9F ?q9N ?_ ?q9hs; (case q9F => k_asm); (case q9N => assumption); (case q9hs => with_unfolding_all rfl); k_whole); intro _) | ((with_reducible show wpAny _ _ (subscriptTail _ _ (Value.ref _) (Value.int _ _)) _ _ _); k_dflt (refine' nodes_item ?q9F ?q9N ?q9k0 ?q9k1 ?q9l ?_ ?q9hs; (case q9F => k_asm); (case q9N => assumption); (case q9k0 => first | exact Int.natCast_nonneg _ | with_reducible assumption | omega); (case q9k1 => first | exact Int.ofNat_lt.mpr (by with_reducible assumption) | with_reducible assumption | omega); (case q9l => assumption); (case q9hs => with_unfolding_all rfl); k_whole); intro _ _) | ((with_reducible show wpAny _ _ (assign (Expr.Tuple _ _ _) _ (Value.ref _)) _ _ _); k_dflt (refine' nd_unpack ?q9F ?q9N ?q9D ?q9k1 ?q9k2 ?q9k3 ?_; (case q9F => k_asm); (case q9N => k_asm); (case q9D => assumption); (case q9k1 => exact rfl); (case q9k2 => exact rfl); (case q9k3 => exact rfl)); intro _ _ _ _ _ _ _ _ _ _) | ((with_reducible show wpAny _ _ (eval (Expr.ListComp _ _ _ _) _) _ _ _); refine held_out ?_) | ((with_reducible show wpAny _ _ (binaryOp Operator.Add (Value.ref _) (Value.ref _)) _ _ _); refine held_out ?_) | ((with_reducible show wpAny _ _ (exec (Stmt.Assign [_] (Expr.ListComp _ _ _ _) _) _) _ _ _); refine held_out ?_) | ((with_reducible show wpAny _ _ (pyIter (Value.ref _)) _ _ _); refine held_out ?_) | ((with_reducible show wpAny _ _ (eval (Expr.Name _ _) _) _ _ _); k_dflt (refine' wpAny_Name (wpAny_loadName_local ?q9a ?q9b ?q9n ?q9m ?_) ?q9d; (case q9a => rfl); (case q9b => rfl); (case q9n => assumption); (case q9m => assumption); (case q9d => decide); k_whole)) | (k_unfold; (try dsimp only)) | (k_end; wrow_close) | walk1 | (dsimp only; walk1) | (leave1; try dsimp only) | fail "no step")
        · first | exact ⟨_, _, rfl, fun _ _ e => e⟩ | (rename_i t9; exact ⟨_, _, t9, rfl, by rw [List.getD_eq_getElem?_getD, r3 _ (dn_n0 hi hki) (dn_n1 hi hki)]; rfl⟩)
        · first | exact ⟨_, _, rfl, fun _ _ e => e⟩ | (rename_i t9; exact ⟨_, _, t9, rfl, by rw [List.getD_eq_getElem?_getD, r3 _ (dn_n0 hi hki) (dn_n1 hi hki)]; rfl⟩)
      · intro D₁ h₇ tk₇ ys vs hnew hLs hPl hlenV hP hPair hns₇ hk₇
        have iB : IntsAre ys.toList (kidsVals nd (out nd len) (len - 1 - i) i (len - 1 - i + 1)) := by
          have := ints_paired vs (len - 1 - i + 1) ys.toList (fun q v e => by
            obtain ⟨hq, t, r⟩ := hP q v e
            exact ⟨t, by rw [r]; congr 1; exact dn_ek hi q⟩) hPair
          rwa [hlenV] at this
        obtain ⟨nB, hB₇⟩ := hPl
        have kp₈ : ∀ b o, b ≠ L → h₆.get? b = some o → h₇.get? b = some o := fun b o hb q => hk₇ b o hb (fun z => absurd (Heap.lt_size q) (by rw [List.mem_singleton.mp z]; exact Nat.lt_irrefl _)) (Heap.get?_push_of_some _ q)
        have nw : ∀ b o, h₆.get? b = some o → D₁ ≠ b := fun b o q z => by
          have := Heap.get?_push_of_some (h := h₆) { cls := .type "range_iterator", data := .fields #[rawInt ((len : Int) - 1 + (i : Nat) * -1 + 1), rawInt (i : Int), rawInt 1] } q
          rw [← z] at this
          have z2 : _ = none := hnew
          dsimp only at z2
          rw [this] at z2
          cases z2
        have F₈ : Fr g L h₇ _ := ⟨hns₇, fun b o e => kp₈ b o (ground_ne F₆ e) (F₆.keep b o e), F₆.above⟩
        have gD : g.get? D₁ = none := by
          cases e : g.get? D₁ with
          | none => rfl
          | some o => exact absurd rfl (nw _ _ (F₆.keep _ _ e))
        have LD : D₁ ≠ L := by
          obtain ⟨oL, _, _, eL, _⟩ := F₆.ns
          exact nw _ _ eL
        have N₈ : News g L h₇ [(D₁, W.listOf ys nB), (h₃.objs.size, iterObj ((len : Int) - 1 + (i : Nat) * -1 + -1) ((len : Int) - (i : Nat) - 1) (-1)), (D, W.listOf its n), (L + 1 + 1 + 1, oN'), (L + 1 + 1, oO'), (L + 1, oC)] := fun q hq => by
          rcases List.mem_cons.mp hq with rfl | hq
          · exact ⟨hB₇, LD, gD⟩
          · have z := N₆ q (List.mem_cons_of_mem _ hq)
            exact ⟨kp₈ _ _ z.2.1 z.1, z.2⟩
        have m1 : @Ne Nat D₁ h₃.objs.size := nw _ _ (N₆ _ (List.Mem.tail _ (List.Mem.head _))).1
        have m2 : @Ne Nat D₁ D := nw _ _ (N₆ _ (List.Mem.tail _ (List.Mem.tail _ (List.Mem.head _)))).1
        have m3 : @Ne Nat D₁ (L + 1 + 1 + 1) := nw _ _ (N₆ _ (List.Mem.tail _ (List.Mem.tail _ (List.Mem.tail _ (List.Mem.head _))))).1
        have m4 : @Ne Nat D₁ (L + 1 + 1) := nw _ _ (N₆ _ (List.Mem.tail _ (List.Mem.tail _ (List.Mem.tail _ (List.Mem.tail _ (List.Mem.head _)))))).1
        have m5 : @Ne Nat D₁ (L + 1) := nw _ _ (N₆ _ (List.Mem.tail _ (List.Mem.tail _ (List.Mem.tail _ (List.Mem.tail _ (List.Mem.tail _ (List.Mem.head _))))))).1
        clear F₆ N₆ F₅ N₅ qk ek
        change wpAny _ _ _ _ _ _
        try k_fold
        repeat' (first | ((with_reducible show wpAny _ _ (call (Value.type "range") _) _ _ _); k_dflt (refine' range_K ?q9F ?q9N ?_; (case q9F => k_asm); (case q9N => k_asm); k_whole); intro _ _ _ _ _ _) | ((with_reducible show wpAny _ _ (call (Value.builtin "len") _) _ _ _); k_dflt (refine' nodes_len ?q9F ?q9N ?q9l ?_; (case q9F => k_asm); (case q9N => assumption); (case q9l => assumption); k_whole)) | ((with_reducible show wpAny _ _ (exec (Stmt.For _ _ _ _ _) _) _ _ _); refine hold_For ?_) | ((with_reducible show wpAny _ _ (subscriptTail _ _ (Value.ref _) (Value.int 0 _)) _ _ _); k_dflt (refine' nd_item ?q9F ?q9N ?_ ?q9hs; (case q9F => k_asm); (case q9N => assumption); (case q9hs => with_unfolding_all rfl); k_whole); intro _) | ((with_reducible show wpAny _ _ (subscriptTail _ _ (Value.ref _) (Value.int _ _)) _ _ _); k_dflt (refine' nodes_item ?q9F ?q9N ?q9k0 ?q9k1 ?q9l ?_ ?q9hs; (case q9F => k_asm); (case q9N => assumption); (case q9k0 => first | exact Int.natCast_nonneg _ | with_reducible assumption | omega); (case q9k1 => first | exact Int.ofNat_lt.mpr (by with_reducible assumption) | with_reducible assumption | omega); (case q9l => assumption); (case q9hs => with_unfolding_all rfl); k_whole); intro _ _) | ((with_reducible show wpAny _ _ (assign (Expr.Tuple _ _ _) _ (Value.ref _)) _ _ _); k_dflt (refine' nd_unpack ?q9F ?q9N ?q9D ?q9k1 ?q9k2 ?q9k3 ?_; (case q9F => k_asm); (case q9N => k_asm); (case q9D => assumption); (case q9k1 => exact rfl); (case q9k2 => exact rfl); (case q9k3 => exact rfl)); intro _ _ _ _ _ _ _ _ _ _) | ((with_reducible show wpAny _ _ (eval (Expr.ListComp _ _ _ _) _) _ _ _); refine held_out ?_) | ((with_reducible show wpAny _ _ (binaryOp Operator.Add (Value.ref _) (Value.ref _)) _ _ _); refine held_out ?_) | ((with_reducible show wpAny _ _ (exec (Stmt.Assign [_] (Expr.ListComp _ _ _ _) _) _) _ _ _); refine held_out ?_) | ((with_reducible show wpAny _ _ (pyIter (Value.ref _)) _ _ _); refine held_out ?_) | ((with_reducible show wpAny _ _ (eval (Expr.Name _ _) _) _ _ _); k_dflt (refine' wpAny_Name (wpAny_loadName_local ?q9a ?q9b ?q9n ?q9m ?_) ?q9d; (case q9a => rfl); (case q9b => rfl); (case q9n => assumption); (case q9m => assumption); (case q9d => decide); k_whole)) | (k_unfold; (try dsimp only)) | (k_end; wrow_close) | walk1 | (dsimp only; walk1) | (leave1; try dsimp only) | fail "no step")
        refine held ?_
        refine' wpAny_ListComp_free pTrue (fun v y => v = y) ?v2 ?v3 ?v4 ?v5 ?v6 ?v9
        case v2 => exact rfl
        case v3 => decide
        case v4 => rfl
        case v5 => decide
        case v6 => rfl
        case v9 =>
          change wpAny _ _ _ _ _ _
          try k_fold
          repeat' (first | ((with_reducible show wpAny _ _ (call (Value.type "range") _) _ _ _); k_dflt (refine' range_K ?q9F ?q9N ?_; (case q9F => k_asm); (case q9N => k_asm); k_whole); intro _ _ _ _ _ _) | ((with_reducible show wpAny _ _ (call (Value.builtin "len") _) _ _ _); k_dflt (refine' nodes_len ?q9F ?q9N ?q9l ?_; (case q9F => k_asm); (case q9N => assumption); (case q9l => assumption); k_whole)) | ((with_reducible show wpAny _ _ (exec (Stmt.For _ _ _ _ _) _) _ _ _); refine hold_For ?_) | ((with_reducible show wpAny _ _ (subscriptTail _ _ (Value.ref _) (Value.int 0 _)) _ _ _); k_dflt (refine' nd_item ?q9F ?q9N ?_ ?q9hs; (case q9F => k_asm); (case q9N => assumption); (case q9hs => with_unfolding_all rfl); k_whole); intro _) | ((with_reducible show wpAny _ _ (subscriptTail _ _ (Value.ref _) (Value.int _ _)) _ _ _); k_dflt (refine' nodes_item ?q9F ?q9N ?q9k0 ?q9k1 ?q9l ?_ ?q9hs; (case q9F => k_asm); (case q9N => assumption); (case q9k0 => first | exact Int.natCast_nonneg _ | with_reducible assumption | omega); (case q9k1 => first | exact Int.ofNat_lt.mpr (by with_reducible assumption) | with_reducible assumption | omega); (case q9l => assumption); (case q9hs => with_unfolding_all rfl); k_whole); intro _ _) | ((with_reducible show wpAny _ _ (assign (Expr.Tuple _ _ _) _ (Value.ref _)) _ _ _); k_dflt (refine' nd_unpack ?q9F ?q9N ?q9D ?q9k1 ?q9k2 ?q9k3 ?_; (case q9F => k_asm); (case q9N => k_asm); (case q9D => assumption); (case q9k1 => exact rfl); (case q9k2 => exact rfl); (case q9k3 => exact rfl)); intro _ _ _ _ _ _ _ _ _ _) | ((with_reducible show wpAny _ _ (eval (Expr.ListComp _ _ _ _) _) _ _ _); refine held_out ?_) | ((with_reducible show wpAny _ _ (binaryOp Operator.Add (Value.ref _) (Value.ref _)) _ _ _); refine held_out ?_) | ((with_reducible show wpAny _ _ (exec (Stmt.Assign [_] (Expr.ListComp _ _ _ _) _) _) _ _ _); refine held_out ?_) | ((with_reducible show wpAny _ _ (pyIter (Value.ref _)) _ _ _); refine held_out ?_) | ((with_reducible show wpAny _ _ (eval (Expr.Name _ _) _) _ _ _); k_dflt (refine' wpAny_Name (wpAny_loadName_local ?q9a ?q9b ?q9n ?q9m ?_) ?q9d; (case q9a => rfl); (case q9b => rfl); (case q9n => assumption); (case q9m => assumption); (case q9d => decide); k_whole)) | (k_unfold; (try dsimp only)) | (k_end; wrow_close) | walk1 | (dsimp only; walk1) | (leave1; try dsimp only) | fail "no step")
          refine held ?_
          have lt₇ : @LT.lt Nat _ D₁ h₇.objs.size := Heap.lt_size hB₇
          have szY : ys.size ≤ 100 := by
            have z1 := hPair.length
            have z2 := List.length_filter_le (pBelow nd ((len - 1 - i : Nat) : Int)) vs
            have z3 : ys.toList.length = ys.size := Array.length_toList
            have z4 : ys.toList.length ≤ 100 := z1 ▸ Nat.le_trans z2 (by rw [hlenV]; exact Nat.le_of_lt (Nat.lt_of_lt_of_le hi hlen))
            exact z3 ▸ z4
          refine wpAny_pyIter_list hLs ?_
          refine ⟨_, [h₇.objs.size, D₁], [h₇.objs.size], ys.size, _, _, rfl, Walks.list rfl h₇.objs.size D₁ (Nat.ne_of_lt lt₇) ys, le_line szY (Nat.le_refl _), ⟨⟨_, Heap.get?_push_size _ rfl, rfl, rfl⟩, hLs.push _⟩, fun z hz => ?_, ⟨?_, ?_⟩, ?_⟩
          · dsimp only
            rw [Heap.size_push]
            rcases List.mem_cons.mp hz with rfl | hz
            · exact Nat.lt_succ_self _
            · cases List.mem_singleton.mp hz
              exact Nat.lt_succ_of_lt lt₇
          · intro C k v s₃ m₃ E' hC hP hns hm hk ht
            obtain ⟨x, t, rfl⟩ := ints_at iB hP
            have kp₉ : ∀ b o, h₇.get? b = some o → s₃.heap.get? b = some o := fun b o q => hk b o (fun z => absurd (Heap.lt_size q) (by rw [List.mem_singleton.mp z]; exact Nat.lt_irrefl _)) (Heap.get?_push_of_some _ q)
            have F₉ := Fr.on F₈ kp₉
            have N₉ : News g L s₃.heap _ := fun q hq => ⟨kp₉ _ _ (N₈ q hq).1, (N₈ q hq).2⟩
            refine wpAny_tests_one ?_
            change wpAny _ _ _ _ _ _
            repeat' (first | ((with_reducible show wpAny _ _ (call (Value.type "range") _) _ _ _); k_dflt (refine' range_K ?q9F ?q9N ?_; (case q9F => k_asm); (case q9N => k_asm); k_whole); intro _ _ _ _ _ _) | ((with_reducible show wpAny _ _ (call (Value.builtin "len") _) _ _ _); k_dflt (refine' nodes_len ?q9F ?q9N ?q9l ?_; (case q9F => k_asm); (case q9N => assumption); (case q9l => assumption); k_whole)) | ((with_reducible show wpAny _ _ (exec (Stmt.For _ _ _ _ _) _) _ _ _); refine hold_For ?_) | ((with_reducible show wpAny _ _ (subscriptTail _ _ (Value.ref _) (Value.int 0 _)) _ _ _); k_dflt (refine' nd_item ?q9F ?q9N ?_ ?q9hs; (case q9F => k_asm); (case q9N => assumption); (case q9hs => with_unfolding_all rfl); k_whole); intro _) | ((with_reducible show wpAny _ _ (subscriptTail _ _ (Value.ref _) (Value.int _ _)) _ _ _); k_dflt (refine' nodes_item ?q9F ?q9N ?q9k0 ?q9k1 ?q9l ?_ ?q9hs; (case q9F => k_asm); (case q9N => assumption); (case q9k0 => first | exact Int.natCast_nonneg _ | with_reducible assumption | omega); (case q9k1 => first | exact Int.ofNat_lt.mpr (by with_reducible assumption) | with_reducible assumption | omega); (case q9l => assumption); (case q9hs => with_unfolding_all rfl); k_whole); intro _ _) | ((with_reducible show wpAny _ _ (assign (Expr.Tuple _ _ _) _ (Value.ref _)) _ _ _); k_dflt (refine' nd_unpack ?q9F ?q9N ?q9D ?q9k1 ?q9k2 ?q9k3 ?_; (case q9F => k_asm); (case q9N => k_asm); (case q9D => assumption); (case q9k1 => exact rfl); (case q9k2 => exact rfl); (case q9k3 => exact rfl)); intro _ _ _ _ _ _ _ _ _ _) | ((with_reducible show wpAny _ _ (eval (Expr.ListComp _ _ _ _) _) _ _ _); refine held_out ?_) | ((with_reducible show wpAny _ _ (binaryOp Operator.Add (Value.ref _) (Value.ref _)) _ _ _); refine held_out ?_) | ((with_reducible show wpAny _ _ (exec (Stmt.Assign [_] (Expr.ListComp _ _ _ _) _) _) _ _ _); refine held_out ?_) | ((with_reducible show wpAny _ _ (pyIter (Value.ref _)) _ _ _); refine held_out ?_) | ((with_reducible show wpAny _ _ (eval (Expr.Name _ _) _) _ _ _); k_dflt (refine' wpAny_Name (wpAny_loadName_local ?q9a ?q9b ?q9n ?q9m ?_) ?q9d; (case q9a => rfl); (case q9b => rfl); (case q9n => assumption); (case q9m => assumption); (case q9d => decide); k_whole)) | (k_unfold; (try dsimp only)) | (k_end; wrow_close) | walk1 | (dsimp only; walk1) | (leave1; try dsimp only) | fail "no step")
            · first | exact ⟨_, _, rfl, fun _ _ e => e⟩ | exact (beq_ne x)
            · first | exact ⟨_, _, rfl, fun _ _ e => e⟩ | exact (beq_ne x)
          · intro C k v s₃ m₃ E' hC hP hpv hns hm hk ht
            change wpAny _ _ _ _ _ _
            repeat' (first | ((with_reducible show wpAny _ _ (call (Value.type "range") _) _ _ _); k_dflt (refine' range_K ?q9F ?q9N ?_; (case q9F => k_asm); (case q9N => k_asm); k_whole); intro _ _ _ _ _ _) | ((with_reducible show wpAny _ _ (call (Value.builtin "len") _) _ _ _); k_dflt (refine' nodes_len ?q9F ?q9N ?q9l ?_; (case q9F => k_asm); (case q9N => assumption); (case q9l => assumption); k_whole)) | ((with_reducible show wpAny _ _ (exec (Stmt.For _ _ _ _ _) _) _ _ _); refine hold_For ?_) | ((with_reducible show wpAny _ _ (subscriptTail _ _ (Value.ref _) (Value.int 0 _)) _ _ _); k_dflt (refine' nd_item ?q9F ?q9N ?_ ?q9hs; (case q9F => k_asm); (case q9N => assumption); (case q9hs => with_unfolding_all rfl); k_whole); intro _) | ((with_reducible show wpAny _ _ (subscriptTail _ _ (Value.ref _) (Value.int _ _)) _ _ _); k_dflt (refine' nodes_item ?q9F ?q9N ?q9k0 ?q9k1 ?q9l ?_ ?q9hs; (case q9F => k_asm); (case q9N => assumption); (case q9k0 => first | exact Int.natCast_nonneg _ | with_reducible assumption | omega); (case q9k1 => first | exact Int.ofNat_lt.mpr (by with_reducible assumption) | with_reducible assumption | omega); (case q9l => assumption); (case q9hs => with_unfolding_all rfl); k_whole); intro _ _) | ((with_reducible show wpAny _ _ (assign (Expr.Tuple _ _ _) _ (Value.ref _)) _ _ _); k_dflt (refine' nd_unpack ?q9F ?q9N ?q9D ?q9k1 ?q9k2 ?q9k3 ?_; (case q9F => k_asm); (case q9N => k_asm); (case q9D => assumption); (case q9k1 => exact rfl); (case q9k2 => exact rfl); (case q9k3 => exact rfl)); intro _ _ _ _ _ _ _ _ _ _) | ((with_reducible show wpAny _ _ (eval (Expr.ListComp _ _ _ _) _) _ _ _); refine held_out ?_) | ((with_reducible show wpAny _ _ (binaryOp Operator.Add (Value.ref _) (Value.ref _)) _ _ _); refine held_out ?_) | ((with_reducible show wpAny _ _ (exec (Stmt.Assign [_] (Expr.ListComp _ _ _ _) _) _) _ _ _); refine held_out ?_) | ((with_reducible show wpAny _ _ (pyIter (Value.ref _)) _ _ _); refine held_out ?_) | ((with_reducible show wpAny _ _ (eval (Expr.Name _ _) _) _ _ _); k_dflt (refine' wpAny_Name (wpAny_loadName_local ?q9a ?q9b ?q9n ?q9m ?_) ?q9d; (case q9a => rfl); (case q9b => rfl); (case q9n => assumption); (case q9m => assumption); (case q9d => decide); k_whole)) | (k_unfold; (try dsimp only)) | (k_end; wrow_close) | walk1 | (dsimp only; walk1) | (leave1; try dsimp only) | fail "no step")
            all_goals exact ⟨_, _, rfl, fun _ _ e => e⟩
          · intro D₂ h₈ tk₈ zs ws hnew₂ hLz hPz hlenW hPw hPair₂ hk₈
            have eW : ws = ys.toList := List.ext_getElem? fun q => by
              cases e : ws[q]? with
              | some v =>
                have := hPw q v e
                rw [← this]
                simp
              | none =>
                have := List.getElem?_eq_none_iff.mp e
                rw [eq_comm, List.getElem?_eq_none_iff, Array.length_toList]
                omega
            have eZ : zs.toList = ys.toList.filter pTrue := by rw [← eW]; exact (paired_eq hPair₂).symm
            have iZ := ints_filter iB
            rw [← eZ] at iZ
            obtain ⟨nZ, hZ₈⟩ := hPz
            have kp₈' : ∀ b o, h₇.get? b = some o → h₈.get? b = some o := fun b o q => hk₈ b o (fun z => absurd (Heap.lt_size q) (by rw [List.mem_singleton.mp z]; exact Nat.lt_irrefl _)) (Heap.get?_push_of_some _ q)
            have nw₂ : ∀ b o, h₇.get? b = some o → D₂ ≠ b := fun b o q z => by
              have := Heap.get?_push_of_some (h := h₇) { cls := .type "list_iterator", data := .fields #[.ref D₁, .int 0 0] } q
              rw [← z] at this
              have z2 : _ = none := hnew₂
              dsimp only at z2
              rw [this] at z2
              cases z2
            have F₉ := Fr.on F₈ kp₈'
            have gD₂ : g.get? D₂ = none := by
              cases e : g.get? D₂ with
              | none => rfl
              | some o => exact absurd rfl (nw₂ _ _ (F₈.keep _ _ e))
            have LD₂ : D₂ ≠ L := by
              obtain ⟨oL, _, _, eL, _⟩ := F₈.ns
              exact nw₂ _ _ eL
            have N₉ : News g L h₈ [(D₂, W.listOf zs nZ), (D₁, W.listOf ys nB), (h₃.objs.size, iterObj ((len : Int) - 1 + (i : Nat) * -1 + -1) ((len : Int) - (i : Nat) - 1) (-1)), (D, W.listOf its n), (L + 1 + 1 + 1, oN'), (L + 1 + 1, oO'), (L + 1, oC)] := fun q hq => by
              rcases List.mem_cons.mp hq with rfl | hq
              · exact ⟨hZ₈, LD₂, gD₂⟩
              · have z := N₈ q hq
                exact ⟨kp₈' _ _ z.1, z.2⟩
            have q0 : @Ne Nat D₂ D₁ := nw₂ _ _ (N₈ _ (List.Mem.head _)).1
            have q1 : @Ne Nat D₂ h₃.objs.size := nw₂ _ _ (N₈ _ (List.Mem.tail _ (List.Mem.head _))).1
            have q2 : @Ne Nat D₂ D := nw₂ _ _ (N₈ _ (List.Mem.tail _ (List.Mem.tail _ (List.Mem.head _)))).1
            have q3 : @Ne Nat D₂ (L + 1 + 1 + 1) := nw₂ _ _ (N₈ _ (List.Mem.tail _ (List.Mem.tail _ (List.Mem.tail _ (List.Mem.head _))))).1
            have q4 : @Ne Nat D₂ (L + 1 + 1) := nw₂ _ _ (N₈ _ (List.Mem.tail _ (List.Mem.tail _ (List.Mem.tail _ (List.Mem.tail _ (List.Mem.head _)))))).1
            have q5 : @Ne Nat D₂ (L + 1) := nw₂ _ _ (N₈ _ (List.Mem.tail _ (List.Mem.tail _ (List.Mem.tail _ (List.Mem.tail _ (List.Mem.tail _ (List.Mem.head _))))))).1
            have szZ : zs.size ≤ 100 := by
              have z1 := congrArg List.length eZ
              have z2 := List.length_filter_le pTrue ys.toList
              have z3 : zs.toList.length = zs.size := Array.length_toList
              have z4 : ys.toList.length = ys.size := Array.length_toList
              exact z3 ▸ z1 ▸ Nat.le_trans z2 (z4 ▸ szY)
            clear F₈ N₈
            change wpAny _ _ _ _ _ _
            try k_fold
            repeat' (first | ((with_reducible show wpAny _ _ (call (Value.type "range") _) _ _ _); k_dflt (refine' range_K ?q9F ?q9N ?_; (case q9F => k_asm); (case q9N => k_asm); k_whole); intro _ _ _ _ _ _) | ((with_reducible show wpAny _ _ (call (Value.builtin "len") _) _ _ _); k_dflt (refine' nodes_len ?q9F ?q9N ?q9l ?_; (case q9F => k_asm); (case q9N => assumption); (case q9l => assumption); k_whole)) | ((with_reducible show wpAny _ _ (exec (Stmt.For _ _ _ _ _) _) _ _ _); refine hold_For ?_) | ((with_reducible show wpAny _ _ (subscriptTail _ _ (Value.ref _) (Value.int 0 _)) _ _ _); k_dflt (refine' nd_item ?q9F ?q9N ?_ ?q9hs; (case q9F => k_asm); (case q9N => assumption); (case q9hs => with_unfolding_all rfl); k_whole); intro _) | ((with_reducible show wpAny _ _ (subscriptTail _ _ (Value.ref _) (Value.int _ _)) _ _ _); k_dflt (refine' nodes_item ?q9F ?q9N ?q9k0 ?q9k1 ?q9l ?_ ?q9hs; (case q9F => k_asm); (case q9N => assumption); (case q9k0 => first | exact Int.natCast_nonneg _ | with_reducible assumption | omega); (case q9k1 => first | exact Int.ofNat_lt.mpr (by with_reducible assumption) | with_reducible assumption | omega); (case q9l => assumption); (case q9hs => with_unfolding_all rfl); k_whole); intro _ _) | ((with_reducible show wpAny _ _ (assign (Expr.Tuple _ _ _) _ (Value.ref _)) _ _ _); k_dflt (refine' nd_unpack ?q9F ?q9N ?q9D ?q9k1 ?q9k2 ?q9k3 ?_; (case q9F => k_asm); (case q9N => k_asm); (case q9D => assumption); (case q9k1 => exact rfl); (case q9k2 => exact rfl); (case q9k3 => exact rfl)); intro _ _ _ _ _ _ _ _ _ _) | ((with_reducible show wpAny _ _ (eval (Expr.ListComp _ _ _ _) _) _ _ _); refine held_out ?_) | ((with_reducible show wpAny _ _ (binaryOp Operator.Add (Value.ref _) (Value.ref _)) _ _ _); refine held_out ?_) | ((with_reducible show wpAny _ _ (exec (Stmt.Assign [_] (Expr.ListComp _ _ _ _) _) _) _ _ _); refine held_out ?_) | ((with_reducible show wpAny _ _ (pyIter (Value.ref _)) _ _ _); refine held_out ?_) | ((with_reducible show wpAny _ _ (eval (Expr.Name _ _) _) _ _ _); k_dflt (refine' wpAny_Name (wpAny_loadName_local ?q9a ?q9b ?q9n ?q9m ?_) ?q9d; (case q9a => rfl); (case q9b => rfl); (case q9n => assumption); (case q9m => assumption); (case q9d => decide); k_whole)) | (k_unfold; (try dsimp only)) | (k_end; wrow_close) | walk1 | (dsimp only; walk1) | (leave1; try dsimp only) | fail "no step")
            rename_i l₁ h₁₀ F₁₀ N₁₀ lt₁₀
            refine held (add_arrays_ints F₁₀ N₁₀ ⟨_, (N₁₀ _ (List.Mem.tail _ (List.Mem.head _))).1, rfl, _, rfl⟩ ⟨_, (N₁₀ _ (List.Mem.head _)).1, rfl, _, rfl⟩ iZ (.cons _ _ .nil) (fun h₁₁ F₁₁ N₁₁ I₁₁ => ?_) ?_)
            · clear F₁₀ N₁₀
              have outE := out_turn (nd := nd) hi
              have cne : ∀ p ∈ [(L + 1 + 1 + 1, oN'), (L + 1 + 1, oO'), (L + 1, oC)], p.1 ≠ D := fun p hp => by
                rcases List.mem_cons.mp hp with rfl | hp
                · exact Nat.ne_of_lt llD
                · rcases List.mem_cons.mp hp with rfl | hp
                  · exact Nat.ne_of_lt (Nat.lt_of_succ_lt llD)
                  · cases List.mem_singleton.mp hp
                    exact Nat.ne_of_lt (Nat.lt_of_succ_lt (Nat.lt_of_succ_lt llD))
              change wpAny _ _ _ _ _ _
              try k_fold
              repeat' (first | ((with_reducible show wpAny _ _ (call (Value.type "range") _) _ _ _); k_dflt (refine' range_K ?q9F ?q9N ?_; (case q9F => k_asm); (case q9N => k_asm); k_whole); intro _ _ _ _ _ _) | ((with_reducible show wpAny _ _ (call (Value.builtin "len") _) _ _ _); k_dflt (refine' nodes_len ?q9F ?q9N ?q9l ?_; (case q9F => k_asm); (case q9N => assumption); (case q9l => assumption); k_whole)) | ((with_reducible show wpAny _ _ (exec (Stmt.For _ _ _ _ _) _) _ _ _); refine hold_For ?_) | ((with_reducible show wpAny _ _ (subscriptTail _ _ (Value.ref _) (Value.int 0 _)) _ _ _); k_dflt (refine' nd_item ?q9F ?q9N ?_ ?q9hs; (case q9F => k_asm); (case q9N => assumption); (case q9hs => with_unfolding_all rfl); k_whole); intro _) | ((with_reducible show wpAny _ _ (subscriptTail _ _ (Value.ref _) (Value.int _ _)) _ _ _); k_dflt (refine' nodes_item ?q9F ?q9N ?q9k0 ?q9k1 ?q9l ?_ ?q9hs; (case q9F => k_asm); (case q9N => assumption); (case q9k0 => first | exact Int.natCast_nonneg _ | with_reducible assumption | omega); (case q9k1 => first | exact Int.ofNat_lt.mpr (by with_reducible assumption) | with_reducible assumption | omega); (case q9l => assumption); (case q9hs => with_unfolding_all rfl); k_whole); intro _ _) | ((with_reducible show wpAny _ _ (assign (Expr.Tuple _ _ _) _ (Value.ref _)) _ _ _); k_dflt (refine' nd_unpack ?q9F ?q9N ?q9D ?q9k1 ?q9k2 ?q9k3 ?_; (case q9F => k_asm); (case q9N => k_asm); (case q9D => assumption); (case q9k1 => exact rfl); (case q9k2 => exact rfl); (case q9k3 => exact rfl)); intro _ _ _ _ _ _ _ _ _ _) | ((with_reducible show wpAny _ _ (eval (Expr.ListComp _ _ _ _) _) _ _ _); refine held_out ?_) | ((with_reducible show wpAny _ _ (binaryOp Operator.Add (Value.ref _) (Value.ref _)) _ _ _); refine held_out ?_) | ((with_reducible show wpAny _ _ (exec (Stmt.Assign [_] (Expr.ListComp _ _ _ _) _) _) _ _ _); refine held_out ?_) | ((with_reducible show wpAny _ _ (pyIter (Value.ref _)) _ _ _); refine held_out ?_) | ((with_reducible show wpAny _ _ (eval (Expr.Name _ _) _) _ _ _); k_dflt (refine' wpAny_Name (wpAny_loadName_local ?q9a ?q9b ?q9n ?q9m ?_) ?q9d; (case q9a => rfl); (case q9b => rfl); (case q9n => assumption); (case q9m => assumption); (case q9d => decide); k_whole)) | (k_unfold; (try dsimp only)) | (k_end; wrow_close) | walk1 | (dsimp only; walk1) | (leave1; try dsimp only) | fail "no step")
              · rename_i t₁₂ h₁₂ F₁₂ N₁₂ e₁
                rw [ej] at e₁
                refine outs_turn F₁₂ (fun q hq => N₁₂ q (List.mem_cons_of_mem _ (List.mem_cons_of_mem _ (List.mem_cons_of_mem _ (List.mem_cons_of_mem _ hq))))) (Nat.ne_of_gt llI) cne r1 (dn_0 hi) (by rw [r2]; exact dn_l hi) (lt_63 (dn_l hi) hlen) (fun h₁₃ F₁₃ N₁₃ I₁₃ => ?_)
                clear F₁₂ N₁₂
                repeat' (first | ((with_reducible show wpAny _ _ (call (Value.type "range") _) _ _ _); k_dflt (refine' range_K ?q9F ?q9N ?_; (case q9F => k_asm); (case q9N => k_asm); k_whole); intro _ _ _ _ _ _) | ((with_reducible show wpAny _ _ (call (Value.builtin "len") _) _ _ _); k_dflt (refine' nodes_len ?q9F ?q9N ?q9l ?_; (case q9F => k_asm); (case q9N => assumption); (case q9l => assumption); k_whole)) | ((with_reducible show wpAny _ _ (exec (Stmt.For _ _ _ _ _) _) _ _ _); refine hold_For ?_) | ((with_reducible show wpAny _ _ (subscriptTail _ _ (Value.ref _) (Value.int 0 _)) _ _ _); k_dflt (refine' nd_item ?q9F ?q9N ?_ ?q9hs; (case q9F => k_asm); (case q9N => assumption); (case q9hs => with_unfolding_all rfl); k_whole); intro _) | ((with_reducible show wpAny _ _ (subscriptTail _ _ (Value.ref _) (Value.int _ _)) _ _ _); k_dflt (refine' nodes_item ?q9F ?q9N ?q9k0 ?q9k1 ?q9l ?_ ?q9hs; (case q9F => k_asm); (case q9N => assumption); (case q9k0 => first | exact Int.natCast_nonneg _ | with_reducible assumption | omega); (case q9k1 => first | exact Int.ofNat_lt.mpr (by with_reducible assumption) | with_reducible assumption | omega); (case q9l => assumption); (case q9hs => with_unfolding_all rfl); k_whole); intro _ _) | ((with_reducible show wpAny _ _ (assign (Expr.Tuple _ _ _) _ (Value.ref _)) _ _ _); k_dflt (refine' nd_unpack ?q9F ?q9N ?q9D ?q9k1 ?q9k2 ?q9k3 ?_; (case q9F => k_asm); (case q9N => k_asm); (case q9D => assumption); (case q9k1 => exact rfl); (case q9k2 => exact rfl); (case q9k3 => exact rfl)); intro _ _ _ _ _ _ _ _ _ _) | ((with_reducible show wpAny _ _ (eval (Expr.ListComp _ _ _ _) _) _ _ _); refine held_out ?_) | ((with_reducible show wpAny _ _ (binaryOp Operator.Add (Value.ref _) (Value.ref _)) _ _ _); refine held_out ?_) | ((with_reducible show wpAny _ _ (exec (Stmt.Assign [_] (Expr.ListComp _ _ _ _) _) _) _ _ _); refine held_out ?_) | ((with_reducible show wpAny _ _ (pyIter (Value.ref _)) _ _ _); refine held_out ?_) | ((with_reducible show wpAny _ _ (eval (Expr.Name _ _) _) _ _ _); k_dflt (refine' wpAny_Name (wpAny_loadName_local ?q9a ?q9b ?q9n ?q9m ?_) ?q9d; (case q9a => rfl); (case q9b => rfl); (case q9n => assumption); (case q9m => assumption); (case q9d => decide); k_whole)) | (k_unfold; (try dsimp only)) | (k_end; wrow_close) | walk1 | (dsimp only; walk1) | (leave1; try dsimp only) | fail "no step")
                exact held ⟨⟨_, _, rfl⟩, (N₁₃ _ (List.Mem.head _)).1, outs_next hi F₁₃ N₁₃ ⟨_, dN'⟩ dO' dC I₁₃ r2 r3 ej (by rw [outE, if_pos e₁, ej])⟩
              · rename_i t₁₂ h₁₂ F₁₂ N₁₂ e₁ e₂
                rw [ej] at e₁ e₂
                refine outs_turn F₁₂ (fun q hq => N₁₂ q (List.mem_cons_of_mem _ (List.mem_cons_of_mem _ (List.mem_cons_of_mem _ (List.mem_cons_of_mem _ hq))))) (Nat.ne_of_gt llI) cne r1 (dn_0 hi) (by rw [r2]; exact dn_l hi) (lt_63 (dn_l hi) hlen) (fun h₁₃ F₁₃ N₁₃ I₁₃ => ?_)
                clear F₁₂ N₁₂
                repeat' (first | ((with_reducible show wpAny _ _ (call (Value.type "range") _) _ _ _); k_dflt (refine' range_K ?q9F ?q9N ?_; (case q9F => k_asm); (case q9N => k_asm); k_whole); intro _ _ _ _ _ _) | ((with_reducible show wpAny _ _ (call (Value.builtin "len") _) _ _ _); k_dflt (refine' nodes_len ?q9F ?q9N ?q9l ?_; (case q9F => k_asm); (case q9N => assumption); (case q9l => assumption); k_whole)) | ((with_reducible show wpAny _ _ (exec (Stmt.For _ _ _ _ _) _) _ _ _); refine hold_For ?_) | ((with_reducible show wpAny _ _ (subscriptTail _ _ (Value.ref _) (Value.int 0 _)) _ _ _); k_dflt (refine' nd_item ?q9F ?q9N ?_ ?q9hs; (case q9F => k_asm); (case q9N => assumption); (case q9hs => with_unfolding_all rfl); k_whole); intro _) | ((with_reducible show wpAny _ _ (subscriptTail _ _ (Value.ref _) (Value.int _ _)) _ _ _); k_dflt (refine' nodes_item ?q9F ?q9N ?q9k0 ?q9k1 ?q9l ?_ ?q9hs; (case q9F => k_asm); (case q9N => assumption); (case q9k0 => first | exact Int.natCast_nonneg _ | with_reducible assumption | omega); (case q9k1 => first | exact Int.ofNat_lt.mpr (by with_reducible assumption) | with_reducible assumption | omega); (case q9l => assumption); (case q9hs => with_unfolding_all rfl); k_whole); intro _ _) | ((with_reducible show wpAny _ _ (assign (Expr.Tuple _ _ _) _ (Value.ref _)) _ _ _); k_dflt (refine' nd_unpack ?q9F ?q9N ?q9D ?q9k1 ?q9k2 ?q9k3 ?_; (case q9F => k_asm); (case q9N => k_asm); (case q9D => assumption); (case q9k1 => exact rfl); (case q9k2 => exact rfl); (case q9k3 => exact rfl)); intro _ _ _ _ _ _ _ _ _ _) | ((with_reducible show wpAny _ _ (eval (Expr.ListComp _ _ _ _) _) _ _ _); refine held_out ?_) | ((with_reducible show wpAny _ _ (binaryOp Operator.Add (Value.ref _) (Value.ref _)) _ _ _); refine held_out ?_) | ((with_reducible show wpAny _ _ (exec (Stmt.Assign [_] (Expr.ListComp _ _ _ _) _) _) _ _ _); refine held_out ?_) | ((with_reducible show wpAny _ _ (pyIter (Value.ref _)) _ _ _); refine held_out ?_) | ((with_reducible show wpAny _ _ (eval (Expr.Name _ _) _) _ _ _); k_dflt (refine' wpAny_Name (wpAny_loadName_local ?q9a ?q9b ?q9n ?q9m ?_) ?q9d; (case q9a => rfl); (case q9b => rfl); (case q9n => assumption); (case q9m => assumption); (case q9d => decide); k_whole)) | (k_unfold; (try dsimp only)) | (k_end; wrow_close) | walk1 | (dsimp only; walk1) | (leave1; try dsimp only) | fail "no step")
                exact held ⟨⟨_, _, rfl⟩, (N₁₃ _ (List.Mem.head _)).1, outs_next hi F₁₃ N₁₃ ⟨_, dN'⟩ dO' dC I₁₃ r2 r3 ej (by rw [outE, if_neg (fun q => q e₁), if_pos e₂, ej])⟩
              · rename_i t₁₂ h₁₂ F₁₂ N₁₂ e₁ e₂ e₃
                rw [ej] at e₁ e₂ e₃
                refine outs_turn F₁₂ (fun q hq => N₁₂ q (List.mem_cons_of_mem _ (List.mem_cons_of_mem _ (List.mem_cons_of_mem _ (List.mem_cons_of_mem _ hq))))) (Nat.ne_of_gt llI) cne r1 (dn_0 hi) (by rw [r2]; exact dn_l hi) (lt_63 (dn_l hi) hlen) (fun h₁₃ F₁₃ N₁₃ I₁₃ => ?_)
                clear F₁₂ N₁₂
                repeat' (first | ((with_reducible show wpAny _ _ (call (Value.type "range") _) _ _ _); k_dflt (refine' range_K ?q9F ?q9N ?_; (case q9F => k_asm); (case q9N => k_asm); k_whole); intro _ _ _ _ _ _) | ((with_reducible show wpAny _ _ (call (Value.builtin "len") _) _ _ _); k_dflt (refine' nodes_len ?q9F ?q9N ?q9l ?_; (case q9F => k_asm); (case q9N => assumption); (case q9l => assumption); k_whole)) | ((with_reducible show wpAny _ _ (exec (Stmt.For _ _ _ _ _) _) _ _ _); refine hold_For ?_) | ((with_reducible show wpAny _ _ (subscriptTail _ _ (Value.ref _) (Value.int 0 _)) _ _ _); k_dflt (refine' nd_item ?q9F ?q9N ?_ ?q9hs; (case q9F => k_asm); (case q9N => assumption); (case q9hs => with_unfolding_all rfl); k_whole); intro _) | ((with_reducible show wpAny _ _ (subscriptTail _ _ (Value.ref _) (Value.int _ _)) _ _ _); k_dflt (refine' nodes_item ?q9F ?q9N ?q9k0 ?q9k1 ?q9l ?_ ?q9hs; (case q9F => k_asm); (case q9N => assumption); (case q9k0 => first | exact Int.natCast_nonneg _ | with_reducible assumption | omega); (case q9k1 => first | exact Int.ofNat_lt.mpr (by with_reducible assumption) | with_reducible assumption | omega); (case q9l => assumption); (case q9hs => with_unfolding_all rfl); k_whole); intro _ _) | ((with_reducible show wpAny _ _ (assign (Expr.Tuple _ _ _) _ (Value.ref _)) _ _ _); k_dflt (refine' nd_unpack ?q9F ?q9N ?q9D ?q9k1 ?q9k2 ?q9k3 ?_; (case q9F => k_asm); (case q9N => k_asm); (case q9D => assumption); (case q9k1 => exact rfl); (case q9k2 => exact rfl); (case q9k3 => exact rfl)); intro _ _ _ _ _ _ _ _ _ _) | ((with_reducible show wpAny _ _ (eval (Expr.ListComp _ _ _ _) _) _ _ _); refine held_out ?_) | ((with_reducible show wpAny _ _ (binaryOp Operator.Add (Value.ref _) (Value.ref _)) _ _ _); refine held_out ?_) | ((with_reducible show wpAny _ _ (exec (Stmt.Assign [_] (Expr.ListComp _ _ _ _) _) _) _ _ _); refine held_out ?_) | ((with_reducible show wpAny _ _ (pyIter (Value.ref _)) _ _ _); refine held_out ?_) | ((with_reducible show wpAny _ _ (eval (Expr.Name _ _) _) _ _ _); k_dflt (refine' wpAny_Name (wpAny_loadName_local ?q9a ?q9b ?q9n ?q9m ?_) ?q9d; (case q9a => rfl); (case q9b => rfl); (case q9n => assumption); (case q9m => assumption); (case q9d => decide); k_whole)) | (k_unfold; (try dsimp only)) | (k_end; wrow_close) | walk1 | (dsimp only; walk1) | (leave1; try dsimp only) | fail "no step")
                exact held ⟨⟨_, _, rfl⟩, (N₁₃ _ (List.Mem.head _)).1, outs_next hi F₁₃ N₁₃ ⟨_, dN'⟩ dO' dC I₁₃ r2 r3 ej (by rw [outE, if_neg (fun q => q e₁), if_neg (fun q => q e₂), if_pos e₃])⟩
              · rename_i t₁₂ h₁₂ F₁₂ N₁₂ e₁ e₂ e₃
                rw [ej] at e₁ e₂ e₃
                refine outs_turn F₁₂ (fun q hq => N₁₂ q (List.mem_cons_of_mem _ (List.mem_cons_of_mem _ (List.mem_cons_of_mem _ (List.mem_cons_of_mem _ hq))))) (Nat.ne_of_gt llI) cne r1 (dn_0 hi) (by rw [r2]; exact dn_l hi) (lt_63 (dn_l hi) hlen) (fun h₁₃ F₁₃ N₁₃ I₁₃ => ?_)
                clear F₁₂ N₁₂
                repeat' (first | ((with_reducible show wpAny _ _ (call (Value.type "range") _) _ _ _); k_dflt (refine' range_K ?q9F ?q9N ?_; (case q9F => k_asm); (case q9N => k_asm); k_whole); intro _ _ _ _ _ _) | ((with_reducible show wpAny _ _ (call (Value.builtin "len") _) _ _ _); k_dflt (refine' nodes_len ?q9F ?q9N ?q9l ?_; (case q9F => k_asm); (case q9N => assumption); (case q9l => assumption); k_whole)) | ((with_reducible show wpAny _ _ (exec (Stmt.For _ _ _ _ _) _) _ _ _); refine hold_For ?_) | ((with_reducible show wpAny _ _ (subscriptTail _ _ (Value.ref _) (Value.int 0 _)) _ _ _); k_dflt (refine' nd_item ?q9F ?q9N ?_ ?q9hs; (case q9F => k_asm); (case q9N => assumption); (case q9hs => with_unfolding_all rfl); k_whole); intro _) | ((with_reducible show wpAny _ _ (subscriptTail _ _ (Value.ref _) (Value.int _ _)) _ _ _); k_dflt (refine' nodes_item ?q9F ?q9N ?q9k0 ?q9k1 ?q9l ?_ ?q9hs; (case q9F => k_asm); (case q9N => assumption); (case q9k0 => first | exact Int.natCast_nonneg _ | with_reducible assumption | omega); (case q9k1 => first | exact Int.ofNat_lt.mpr (by with_reducible assumption) | with_reducible assumption | omega); (case q9l => assumption); (case q9hs => with_unfolding_all rfl); k_whole); intro _ _) | ((with_reducible show wpAny _ _ (assign (Expr.Tuple _ _ _) _ (Value.ref _)) _ _ _); k_dflt (refine' nd_unpack ?q9F ?q9N ?q9D ?q9k1 ?q9k2 ?q9k3 ?_; (case q9F => k_asm); (case q9N => k_asm); (case q9D => assumption); (case q9k1 => exact rfl); (case q9k2 => exact rfl); (case q9k3 => exact rfl)); intro _ _ _ _ _ _ _ _ _ _) | ((with_reducible show wpAny _ _ (eval (Expr.ListComp _ _ _ _) _) _ _ _); refine held_out ?_) | ((with_reducible show wpAny _ _ (binaryOp Operator.Add (Value.ref _) (Value.ref _)) _ _ _); refine held_out ?_) | ((with_reducible show wpAny _ _ (exec (Stmt.Assign [_] (Expr.ListComp _ _ _ _) _) _) _ _ _); refine held_out ?_) | ((with_reducible show wpAny _ _ (pyIter (Value.ref _)) _ _ _); refine held_out ?_) | ((with_reducible show wpAny _ _ (eval (Expr.Name _ _) _) _ _ _); k_dflt (refine' wpAny_Name (wpAny_loadName_local ?q9a ?q9b ?q9n ?q9m ?_) ?q9d; (case q9a => rfl); (case q9b => rfl); (case q9n => assumption); (case q9m => assumption); (case q9d => decide); k_whole)) | (k_unfold; (try dsimp only)) | (k_end; wrow_close) | walk1 | (dsimp only; walk1) | (leave1; try dsimp only) | fail "no step")
                exact held ⟨⟨_, _, rfl⟩, (N₁₃ _ (List.Mem.head _)).1, outs_next hi F₁₃ N₁₃ ⟨_, dN'⟩ dO' dC I₁₃ r2 r3 ej (by rw [outE, if_neg (fun q => q e₁), if_neg (fun q => q e₂), if_neg e₃, ej])⟩
            · have z5 := iZ.length
              have z4 : zs.toList.length = zs.size := Array.length_toList
              rw [← z5, z4]
              exact line_1 szZ
end
end

/-! F21 -/
/-- the frame's map, with two names anew -/
abbrev two (xi xc : Str) (vi vc : Option Value) (m : Str → Option Value) (y : Str) : Option Value := if y = xc then vc else if y = xi then vi else m y
theorem two_self {xi xc : Str} {m : Str → Option Value} : two xi xc (m xi) (m xc) m = m := by
  funext y
  unfold two
  split
  · rename_i h; rw [h]
  · split
    · rename_i h; rw [h]
    · rfl
abbrev one (x : Str) (v : Option Value) (m : Str → Option Value) (y : Str) : Option Value := if y = x then v else m y
theorem one_self {x : Str} {m : Str → Option Value} : one x (m x) m = m := by
  funext y
  unfold one
  split
  · rename_i h; rw [h]
  · rfl
theorem two_put {y x : Str} {v : Option Value} {m : Str → Option Value} : two y x (m y) v m = fun z => if z = x then v else m z := by
  funext z
  unfold two
  split
  · rfl
  · split
    · rename_i h; rw [h]
    · rfl
theorem two_two {xi xc : Str} {vi vc wi wc : Option Value} {m : Str → Option Value} : two xi xc vi vc (two xi xc wi wc m) = two xi xc vi vc m := by
  funext y
  unfold two
  split
  · rfl
  · split
    · rfl
    · rfl
section
variable {prog : Program} {w : World} {A : Around} {E : Value → Shared → Prop} {s : Shared} {env : Env} {g : Heap} {L : Addr} {m : Str → Option Value}
theorem draws_loop {as : List Int} {e D l : Addr} {oL : Obj} {its : Array Value} {n d : Nat} {us : List Int} {xi xc : Str} {body : List Stmt} {Q : Flow → Shared → Prop}
    (S : PairSrcL prog w A E g L ItemKind.int as (.ref e) s m [(D, listOf its n), (l, oL), (72, tabObj #[])]) (hL : env.locals = L) (hI : IntsAre its.toList us) (hd : us.length = d)
    (step : ∀ (i : Nat) a t ta its n us own h tk, i < as.length → IntsAre its.toList us → us.length = d → (∀ p ∈ own, p.1 ≠ D) → Fr g L h (two xi xc (some (.int i t)) (some (.int a ta)) m) → News g L h ((D, listOf its n) :: (l, oL) :: (72, tabObj #[]) :: own) →
      wpAny (model prog w) A (execs body env) (fun f s₂ => Held (f = .next ∧ ∃ h' tk' its' n' us', s₂ = { s with heap := h', toks := tk' } ∧ Fr g L h' (two xi xc (some (.int i t)) (some (.int a ta)) m) ∧ News g L h' ((D, listOf its' n') :: (l, oL) :: (72, tabObj #[]) :: own) ∧ IntsAre its'.toList us' ∧ us'.length = d)) E { s with heap := h, toks := tk })
    (done : ∀ h tk its n us vi vc, Fr g L h (two xi xc vi vc m) → News g L h [(D, listOf its n), (l, oL), (72, tabObj #[])] → IntsAre its.toList us → us.length = d → Q .next { s with heap := h, toks := tk }) :
    wpAny (model prog w) A (pyIter (.ref e)) (fun it s₂ => PairAt3 prog w A g env xi xc body Q E it s₂) E s := by
  subst hL
  refine PairSrcL.at S env rfl xi xc body Q (fun i m₁ n₁ => ∃ its n us vi vc, n₁ = [(D, listOf its n), (l, oL), (72, tabObj #[])] ∧ IntsAre its.toList us ∧ us.length = d ∧ m₁ = two xi xc vi vc m) ⟨its, n, us, m xi, m xc, rfl, hI, hd, two_self.symm⟩ ?_ ?_
  · rintro i a t v m₁ n₁ s₁ own ⟨h, tk, rfl⟩ ha hk ⟨its, n, us, vi, vc, rfl, I, hu, rfl⟩ hmap hown F N
    obtain ⟨ta, rfl⟩ := ItemKind.int_is hk
    have F' : Fr g env.locals h (two xi xc (some (.int i t)) (some (.int a ta)) m) := by
      rw [← two_two (wi := vi) (wc := vc)]
      exact F
    have N₃ : News g env.locals h ((D, listOf its n) :: (l, oL) :: (72, tabObj #[]) :: own) := fun p hp => N p (by
      rcases List.mem_cons.mp hp with rfl | hp
      · exact List.mem_append_right _ (.head _)
      · rcases List.mem_cons.mp hp with rfl | hp
        · exact List.mem_append_right _ (.tail _ (.head _))
        · rcases List.mem_cons.mp hp with rfl | hp
          · exact List.mem_append_right _ (.tail _ (.tail _ (.head _)))
          · exact List.mem_append_left _ hp)
    refine wpAny_mono (step i a t ta its n us own h tk (List.getElem?_eq_some_iff.mp ha).1 I hu (fun p hp => hown p hp _ (.head _)) F' N₃) (fun f s₂ q => ?_) fun _ _ e => e
    obtain ⟨rfl, h', tk', its', n', us', rfl, F'', N'', I', hu'⟩ := q
    refine LoopStep2.intro (news₂ := [(D, listOf its' n'), (l, oL), (72, tabObj #[])]) F'' (fun p hp => N'' p ?_) rfl ⟨its', n', us', _, _, rfl, I', hu', rfl⟩
    rcases List.mem_append.mp hp with hp | hp
    · exact .tail _ (.tail _ (.tail _ hp))
    · rcases List.mem_cons.mp hp with rfl | hp
      · exact .head _
      · rcases List.mem_cons.mp hp with rfl | hp
        · exact .tail _ (.head _)
        · cases List.mem_singleton.mp hp
          exact .tail _ (.tail _ (.head _))
  · rintro h tk m' n' F N hmap ⟨its, n, us, vi, vc, rfl, I, hu, rfl⟩
    exact done h tk its n us vi vc F N I hu
end
/-! ## the loop that makes the nodes -/
def NodesAt (h : Heap) (its : List Value) (nd : Nat → Nd) (len : Nat) : Prop := its.length = len ∧ ∀ i, i < len → ∃ t, its[i]? = some (.ref t) ∧ NdIs h t (nd i)
theorem nd_split {g h : Heap} {L nl t : Addr} {m : Str → Option Value} {ii : Array Value} {nn : Nat} {d : Nd} (F : Fr g L h m) (hl : h.get? nl = some (listOf ii nn)) (r : NdIs h t d) :
    ∃ tups : List (Addr × Obj), (∀ p ∈ tups, (h.get? p.1 = some p.2 ∧ p.1 ≠ L ∧ g.get? p.1 = none) ∧ p.2.cls = .type "tuple") ∧ ∀ h', (∀ b o, g.get? b = some o → h'.get? b = some o) → (∀ p ∈ tups, h'.get? p.1 = some p.2) → NdIs h' t d := by
  obtain ⟨t1, t2, t3, x, t5, t6, ⟨o, ho, hc, nn', hd⟩, hx⟩ := r
  have hL : t ≠ L := fun q => by
    obtain ⟨oL, _, _, e1, e2, _⟩ := F.ns
    rw [q, e1] at ho; cases ho; rw [e2] at hd; cases hd
  cases q : g.get? t with
  | none =>
    refine ⟨[(t, o)], fun p hp => ?_, fun h' k1 k2 => ⟨t1, t2, t3, x, t5, t6, ⟨o, k2 _ (.head _), hc, nn', hd⟩, hx⟩⟩
    cases List.mem_singleton.mp hp
    exact ⟨⟨ho, hL, q⟩, hc⟩
  | some o' =>
    have := F.keep _ _ q
    rw [ho] at this; cases this
    exact ⟨[], (fun p hp => nomatch hp), fun h' k1 k2 => ⟨t1, t2, t3, x, t5, t6, ⟨o, k1 _ _ q, hc, nn', hd⟩, hx⟩⟩
theorem nodes_split {g h : Heap} {L nl : Addr} {m : Str → Option Value} {ii : Array Value} {nn : Nat} (F : Fr g L h m) (hl : h.get? nl = some (listOf ii nn)) {its : List Value} {nd : Nat → Nd} : ∀ {len : Nat}, (∀ i, i < len → ∃ t, its[i]? = some (.ref t) ∧ NdIs h t (nd i)) →
    ∃ tups : List (Addr × Obj), (∀ p ∈ tups, (h.get? p.1 = some p.2 ∧ p.1 ≠ L ∧ g.get? p.1 = none) ∧ p.2.cls = .type "tuple") ∧ ∀ h', (∀ b o, g.get? b = some o → h'.get? b = some o) → (∀ p ∈ tups, h'.get? p.1 = some p.2) → ∀ i, i < len → ∃ t, its[i]? = some (.ref t) ∧ NdIs h' t (nd i)
  | 0, _ => ⟨[], (fun p hp => nomatch hp), fun _ _ _ i hi => absurd hi (Nat.not_lt_zero _)⟩
  | len + 1, r => by
    obtain ⟨tups, a, c⟩ := nodes_split F hl (len := len) fun i hi => r i (Nat.lt_succ_of_lt hi)
    obtain ⟨t, e, D⟩ := r len (Nat.lt_succ_self _)
    obtain ⟨tt, a', c'⟩ := nd_split F hl D
    refine ⟨tt ++ tups, fun p hp => ?_, fun h' k1 k2 i hi => ?_⟩
    · rcases List.mem_append.mp hp with hp | hp
      · exact a' p hp
      · exact a p hp
    · by_cases q : i < len
      · exact c h' k1 (fun p hp => k2 p (List.mem_append_right _ hp)) i q
      · have : i = len := by omega
        subst this
        exact ⟨t, e, c' h' k1 fun p hp => k2 p (List.mem_append_left _ hp)⟩
theorem NodesAt.is {h : Heap} {nl : Addr} {its : Array Value} {n : Nat} {nd : Nat → Nd} {len : Nat} (hl : h.get? nl = some (listOf its n)) (q : NodesAt h its.toList nd len) : NodesIs h nl nd len :=
  ⟨its, ⟨_, hl, rfl, n, rfl⟩, by have := q.1; rwa [Array.length_toList] at this, fun i hi => by
    obtain ⟨t, e, D⟩ := q.2 i hi
    exact ⟨t, by simpa using e, D⟩⟩
theorem NodesAt.push {h : Heap} {its : Array Value} {nd : Nat → Nd} {len : Nat} {t : Addr} {d : Nd} (h1 : its.toList.length = len) (h2 : ∀ i, i < len → ∃ t, its.toList[i]? = some (.ref t) ∧ NdIs h t (nd i)) (D : NdIs h t d) : NodesAt h (its.push (.ref t)).toList (fun k => if k = len then d else nd k) (len + 1) := by
  rw [Array.toList_push]
  refine ⟨by rw [List.length_append, h1]; rfl, fun i hi => ?_⟩
  by_cases q : i < len
  · obtain ⟨t', e, D'⟩ := h2 i q
    refine ⟨t', by rw [List.getElem?_append_left (by omega)]; exact e, ?_⟩
    dsimp only
    rw [if_neg (by omega)]
    exact D'
  · have : i = len := by omega
    subst this
    refine ⟨t, by rw [List.getElem?_append_right (by omega), h1, Nat.sub_self]; rfl, ?_⟩
    dsimp only
    rw [if_pos rfl]
    exact D
section
variable {prog : Program} {w : World} {A : Around} {s : Shared} {env : Env} {g : Heap} {L : Addr} {m : Str → Option Value}
theorem nodes_loop {R : Result → Shared → Prop} {x y : Str} {px : Pos} {body : List Stmt} {it D nl : Addr} {dits : Array Value} {dn : Nat} {us : List Int} {its : Array Value} {n len : Nat} {nd₀ : Nat → Nd}
    (P : Nd → Prop) (F : Fr g L s.heap m) (hh : A.handled = none) (hx : env.kindOf x = some .local) (hp : (env.scope.kind == .class || (env.scope.kind == .module && env.locals != env.globals)) = false) (hL : env.locals = L) (hxy : y ≠ x)
    (hit : s.heap.IsListIter it D 0) (hitL : it ≠ L) (hitg : g.get? it = none) (hI : IntsAre dits.toList us) (hm : m y = some (.ref nl)) (N : News g L s.heap [(nl, listOf its n), (D, listOf dits dn), (72, tabObj #[])]) (hnD : nl ≠ D)
    (hN : NodesAt s.heap its.toList nd₀ len) (hok : ∀ i, i < len → P (nd₀ i))
    (step : ∀ (i : Nat) a ta m h tk its n oi tups, i < us.length → its.size = len + i → Fr g L h (two y x (some (.ref nl)) (some (.int a ta)) m) →
      (∀ p ∈ tups, p.1 ≠ nl) → (it ≠ nl ∧ D ≠ nl ∧ 72 ≠ nl) → News g L h ((nl, listOf its n) :: (it, oi) :: (D, listOf dits dn) :: (72, tabObj #[]) :: tups) →
      wpAny (model prog w) A (execs body env) (fun f s₂ => Held (f = .next ∧ ∃ h' tk' m' t d n', s₂ = { s with heap := h', toks := tk' } ∧ Fr g L h' m' ∧ m' y = some (.ref nl) ∧ P d ∧ NdIs h' t d ∧
        News g L h' ((nl, listOf (its.push (.ref t)) n') :: (it, oi) :: (D, listOf dits dn) :: (72, tabObj #[]) :: tups))) (notedBy (model prog w) A env fun e s' => R (.error e) s') { s with heap := h, toks := tk })
    (done : ∀ h tk m its n nd, Fr g L h (one y (some (.ref nl)) m) → News g L h [(nl, listOf its n), (D, listOf dits dn), (72, tabObj #[])] → NodesAt h its.toList nd (len + us.length) → (∀ i, i < len + us.length → P (nd i)) → (∀ i, i < len → nd i = nd₀ i) → R (.ok .next) { s with heap := h, toks := tk }) :
    codeAny (model prog w) A (.forLoop (.Name x px) (.ref it) body [] env) R s := by
  subst hL
  have hsz : dits.size = us.length := by have := hI.length; rwa [Array.length_toList] at this
  have apart : ∀ h i, h.IsListIter it D i → News g env.locals h [(nl, listOf its n), (D, listOf dits dn), (72, tabObj #[])] → True := fun _ _ _ _ => trivial
  have itne : ∀ {h : Heap} {i : Nat} {b : Addr} {o : Obj}, h.IsListIter it D i → h.get? b = some o → (∀ vs, o.data = .fields vs → o.cls = .none) → b ≠ it := fun {h i b o} ⟨oi, e1, e2, e3⟩ e n q => by
    rw [q, e1] at e
    cases e
    have := n _ e3
    rw [e2] at this
    cases this
  refine codeAny_forLoop (fun k s' => ∃ h' tk i m' its' n' nd', s' = { s with heap := h', toks := tk } ∧ h'.IsListIter it D i ∧ Fr g env.locals h' m' ∧ m' y = some (.ref nl) ∧ News g env.locals h' [(nl, listOf its' n'), (D, listOf dits dn), (72, tabObj #[])] ∧ NodesAt h' its'.toList nd' (len + i) ∧ (∀ j, j < len + i → P (nd' j)) ∧ (∀ j, j < len → nd' j = nd₀ j) ∧ i ≤ us.length ∧ k = us.length + 1 - i) ?_ (us.length + 1)
    ⟨s.heap, s.toks, 0, m, its, n, nd₀, rfl, hit, F, hm, N, hN, hok, fun _ _ => rfl, Nat.zero_le _, rfl⟩
  rintro k s' ⟨h', tk, i, m', its', n', nd', rfl, hit', F', hm', N', hN', hok', hfix, hi, rfl⟩
  have hD : h'.IsList D dits := ⟨_, (N' _ (.tail _ (.head _))).1, rfl, _, rfl⟩
  have n1 : nl ≠ it := itne hit' (N' _ (.head _)).1 (fun vs q => by cases q)
  have n2 : D ≠ it := itne hit' (N' _ (.tail _ (.head _))).1 (fun vs q => by cases q)
  have n3 : 72 ≠ it := itne hit' (N' _ (.tail _ (.tail _ (.head _)))).1 (fun vs q => rfl)
  have keepIt : ∀ {h₁ : Heap}, Heap.ExtBut it h' h₁ → Fr g env.locals h₁ m' ∧ News g env.locals h₁ [(nl, listOf its' n'), (D, listOf dits dn), (72, tabObj #[])] ∧ NodesAt h₁ its'.toList nd' (len + i) := fun {h₁} hx' => by
    refine ⟨⟨F'.ns.extBut hx' hitL.symm, fun b o e => hx' b o (fun q => by rw [q, hitg] at e; cases e) (F'.keep b o e), F'.above⟩, fun p hp => ⟨hx' _ _ (fun q => ?_) (N' p hp).1, (N' p hp).2⟩, hN'.1, fun j hj => ?_⟩
    · rcases List.mem_cons.mp hp with rfl | hp
      · exact n1 q
      · rcases List.mem_cons.mp hp with rfl | hp
        · exact n2 q
        · cases List.mem_singleton.mp hp
          exact n3 q
    · obtain ⟨t, e, t1, t2, t3, x', t5, t6, ⟨o, ho, hc, nn, hd⟩, hx''⟩ := hN'.2 j hj
      exact ⟨t, e, t1, t2, t3, x', t5, t6, ⟨o, hx' t o (itne hit' ho fun vs q => by rw [hd] at q; cases q) ho, hc, nn, hd⟩, hx''⟩
  by_cases hlt : i < us.length
  · obtain ⟨ta, hv⟩ := hI.get i _ (List.getElem?_eq_getElem hlt)
    refine wpAny_pyNext_list_item hit' hD (x := .int us[i] ta) (by simpa using hv) fun h₁ hit₁ hs₁ => ?_
    obtain ⟨F₁, N₁, A₁⟩ := keepIt hs₁.extBut
    refine wpAny_assign_Name (wpAny_storeName_local hx F₁.ns (fun h₂ hn₂ hs₂ => ?_) hp)
    have F₂ := F₁.set hn₂ hs₂
    have N₂ := N₁.set hs₂
    obtain ⟨oi, o1, o2, o3⟩ := id hit₁
    have o1' : h₂.get? it = some oi := (hs₂.2 it hitL).trans o1
    have A₂ : ∀ j, j < len + i → ∃ t, its'.toList[j]? = some (.ref t) ∧ NdIs h₂ t (nd' j) := fun j hj => by
      obtain ⟨t, e, t1, t2, t3, x', t5, t6, ⟨o, ho, hc, nn, hd⟩, hx''⟩ := A₁.2 j hj
      obtain ⟨oL, _, _, l1, l2, _⟩ := F₁.ns
      exact ⟨t, e, t1, t2, t3, x', t5, t6, ⟨o, (hs₂.2 t fun q => by rw [q, l1] at ho; cases ho; rw [l2] at hd; cases hd).trans ho, hc, nn, hd⟩, hx''⟩
    obtain ⟨tups, u1, u2⟩ := nodes_split F₂ (N₂ _ (.head _)).1 A₂
    have tne : ∀ p ∈ tups, p.1 ≠ nl := fun p hp q => by
      have := (u1 p hp).1.1
      rw [q, (N₂ _ (.head _)).1] at this
      have e := congrArg Obj.cls (Option.some.inj this)
      rw [(u1 p hp).2] at e
      exact absurd (Value.type.inj e) (by decide)
    have h72 : (72 : Nat) ≠ nl := fun q => by
      have := (N₂ _ (.tail _ (.tail _ (.head _)))).1
      dsimp only at this
      rw [q, (N₂ _ (.head _)).1] at this
      cases congrArg Obj.data (Option.some.inj this)
    have hz : its'.size = len + i := by have := hN'.1; rwa [Array.length_toList] at this
    refine wpAny_mono (step i us[i] ta m' h₂ _ its' n' oi tups hlt hz (by rw [← hm', two_put]; exact F₂) tne ⟨n1.symm, hnD.symm, h72⟩ (fun p hp => ?_)) (fun f s₃ q => ?_) fun _ _ e => e
    · rcases List.mem_cons.mp hp with rfl | hp
      · exact N₂ _ (.head _)
      · rcases List.mem_cons.mp hp with rfl | hp
        · exact ⟨o1', hitL, hitg⟩
        · rcases List.mem_cons.mp hp with rfl | hp
          · exact N₂ _ (.tail _ (.head _))
          · rcases List.mem_cons.mp hp with rfl | hp
            · exact N₂ _ (.tail _ (.tail _ (.head _)))
            · exact (u1 p hp).1
    · obtain ⟨rfl, h₃, tk₃, m₃, t, d, n₃, rfl, F₃, hm₃, hd, D₃, N₃⟩ := q
      have A₃ := u2 h₃ F₃.keep fun p hp => (N₃ p (.tail _ (.tail _ (.tail _ (.tail _ hp))))).1
      refine ⟨us.length + 1 - (i + 1), by omega, h₃, tk₃, i + 1, m₃, _, n₃, _, rfl, ⟨oi, (N₃ _ (.tail _ (.head _))).1, o2, by simpa using o3⟩, F₃, hm₃, fun p hp => ?_, NodesAt.push hN'.1 A₃ D₃, fun j hj => ?_, fun j hj => ?_, hlt, rfl⟩
      · rcases List.mem_cons.mp hp with rfl | hp
        · exact N₃ _ (.head _)
        · rcases List.mem_cons.mp hp with rfl | hp
          · exact N₃ _ (.tail _ (.tail _ (.head _)))
          · cases List.mem_singleton.mp hp
            exact N₃ _ (.tail _ (.tail _ (.tail _ (.head _))))
      · show P (if j = len + i then d else nd' j)
        by_cases q : j = len + i
        · rw [if_pos q]
          exact hd
        · rw [if_neg q]
          exact hok' j (by omega)
      · show (if j = len + i then d else nd' j) = nd₀ j
        rw [if_neg (by omega)]
        exact hfix j hj
  · have hin : i = us.length := by omega
    subst hin
    refine wpAny_pyNext_list_end hh hit' hD (by simp [hsz]) fun h₁ he₁ => wpAny_execs_nil ?_
    obtain ⟨F₁, N₁, A₁⟩ := keepIt he₁
    exact done h₁ tk m' its' n' nd' (by rw [← hm', one_self]; exact F₁) N₁ A₁ hok' hfix
end

/-! F22 -/
section
variable {prog : Program} {w : World} {A : Around} {E : Value → Shared → Prop} {s : Shared} {env : Env} {g : Heap} {L : Addr} {m : Str → Option Value} {news rest : List (Addr × Obj)}
theorem draws_get {D : Addr} {its : Array Value} {n : Nat} {us : List Int} {k : Int} {u : Tok} {Q : Value → Shared → Prop} (N : News g L s.heap ((D, listOf its n) :: rest)) (hi : IntsAre its.toList us) (h0 : 0 ≤ k) (h1 : k < us.length) (hf : k < 2 ^ 63) (h : ∀ t, Q (.int (us.getD k.toNat 0) t) s) :
    wpAny (model prog w) A (getItem (.ref D) (.int k u)) Q E s := ksa_get (vs := its.toList) N (.head _) hi h0 h1 hf h
theorem draws_set {D : Addr} {its : Array Value} {n : Nat} {us : List Int} {k x : Int} {t u : Tok} {Q : Unit → Shared → Prop} (F : Fr g L s.heap m) (N : News g L s.heap ((D, listOf its n) :: rest)) (h2 : ∀ p ∈ rest, p.1 ≠ D) (hi : IntsAre its.toList us) (h0 : 0 ≤ k) (h1 : k < us.length) (hf : k < 2 ^ 63)
    (h : ∀ h', Fr g L h' m → News g L h' ((D, listOf (its.toList.set k.toNat (.int x u)).toArray n) :: rest) → IntsAre (its.toList.set k.toNat (.int x u)) (us.set k.toNat x) → Q () { s with heap := h' }) :
    wpAny (model prog w) A (setItem (.ref D) (.int k t) (.int x u)) Q E s :=
  ksa_set (vs := its.toList) F N (.head h2) hi h0 h1 hf fun h' F' N' I _ _ => h h' F' N' I
theorem menu {T : Addr} {its : Array Value} {n : Nat} {k : Int} {u : Tok} {P : Value → Prop} {value slice : Expr} {Q : Value → Shared → Prop} (N : News g L s.heap news) (hm : (T, { cls := .type "tuple", data := .seq its n }) ∈ news) (h0 : 0 ≤ k) (h1 : k < its.size) (hf : k < 2 ^ 63) (hP : ∀ v ∈ its.toList, P v) (h : ∀ v, P v → Q v s)
    (hs : subscripted slice false (.ref T) (.int k u) = operate [.ref T, .int k u] (getItem (.ref T) (.int k u)) := by with_unfolding_all rfl) :
    wpAny (model prog w) A (subscriptTail value slice (.ref T) (.int k u)) Q E s := by
  have ht : IsTup s.heap T its := ⟨_, (N _ hm).1, rfl, n, rfl⟩
  have hk : k.toNat < its.size := by omega
  exact tail_any (T := "tuple") ⟨_, (N _ hm).1, rfl⟩ slot_tuple_getitem.lookup (getItem_tuple ht (by omega) hf (StrLaws.seqIndex_nonneg h0 h1) (Array.getElem?_eq_getElem hk) (h _ (hP _ (by simp)))) hs
theorem For_list {x : Str} {px pos : Pos} {iter : Expr} {body : List Stmt} {Q : Flow → Shared → Prop}
    (h : wpAny (model prog w) A (eval iter env) (fun r s₁ => Held (∃ D dits, r = .ref D ∧ s₁.heap.IsList D dits ∧
      codeAny (model prog w) A (.forLoop (.Name x px) (.ref s₁.heap.objs.size) body [] env) (fun r s' => match r with | .ok f => Q f s' | .error e => cameBackBy (model prog w) A env E e s')
        { s₁ with heap := s₁.heap.push { cls := .type "list_iterator", data := .fields #[.ref D, .int 0 0] } })) E s)
    (hs : ∀ x, foldedSetIterable iter env x = pure x := by intro _; rfl) : wpAny (model prog w) A (exec (.For (.Name x px) iter body [] pos) env) Q E s := by
  refine wpAny_For (wpAny_mono h (fun r s₁ q => ?_) fun _ _ e => e) hs
  obtain ⟨D, dits, rfl, hr, q⟩ := q
  exact wpAny_pyIter_list hr q
/-- an int between 0 and 3 -/
def Small (v : Value) : Prop := ∃ x t, v = .int x t ∧ 0 ≤ x ∧ x ≤ 3
def PlaceV (v : Value) : Prop := ∃ x : EV, x.Is v ∧ (x = .none ∨ ∃ y, x = .str y)
theorem mod_at {i d len : Nat} (hi : i < len) (hd : (d : Int) = if 8 < (len : Int) then 8 else (len : Int)) : 0 ≤ (i : Int).fmod 8 ∧ (i : Int).fmod 8 < d ∧ (i : Int).fmod 8 < 2 ^ 63 := by
  rw [Int.fmod_eq_emod_of_nonneg _ (by omega)]
  have h : (2 : Int) ^ 63 = 9223372036854775808 := by decide
  rw [h]
  split at hd <;> omega
theorem mod_in (a : Int) {b : Int} (hb : 0 < b) : 0 ≤ a.fmod b ∧ a.fmod b < b := ⟨Int.fmod_nonneg_of_pos a hb, Int.fmod_lt_of_pos a hb⟩
end
/-! ## what a record reads as -/
def evData : EV → PyData
  | .none => .none
  | .int i => .int i
  | .str x => .str x
def entData (e : Ent) : PyData := .tuple [.int e.k, .int e.n, evData e.x]
def EvOk : EV → Prop
  | .str x => PyData.strOk x = true
  | _ => True
theorem reads_ev {h : Heap} {x : EV} {v : Value} (q : x.Is v) : Reads h v (evData x) [] := by
  cases x with
  | none => cases q; exact .none
  | int i => obtain ⟨t, rfl⟩ := q; exact .int i t
  | str y => obtain ⟨t, rfl⟩ := q; exact .str y t
theorem reads_ents {h : Heap} : ∀ {vs : List Value} {es : List Ent}, Ents h vs es → ReadsAll h vs (es.map entData) []
  | [], [], _ => .nil
  | v :: vs, e :: es, q => by
    obtain ⟨t, o, nn, t1, t2, x, rfl, ho, hc, hd, hx⟩ := q.1
    have r : ReadsAll h [.int e.k t1, .int e.n t2, x] [.int e.k, .int e.n, evData e.x] [] := ReadsAll.cons (.int _ _) (ReadsAll.cons (.int _ _) (ReadsAll.cons (reads_ev hx) .nil))
    exact ReadsAll.cons (as := []) (bs := []) (Reads.tuple ho hc hd r) (reads_ents q.2)
  | [], _ :: _, q => q.elim
  | _ :: _, [], q => q.elim
theorem reads_log {h : Heap} {lg : Addr} {es : List Ent} : LogIs h lg es → Reads h (.ref lg) (.list (es.map entData)) [lg]
  | ⟨its, n, hl, q⟩ => Reads.list hl rfl rfl (reads_ents q)
theorem ev_shape (x : EV) (h : EvOk x) : (evData x).canLay0 = true ∧ (evData x).depth = 0 ∧ PyData.eqv (evData x) (evData x) = true := by
  cases x with
  | none => exact ⟨rfl, rfl, rfl⟩
  | int i => exact ⟨rfl, rfl, by simp [evData, PyData.eqv]⟩
  | str y => exact ⟨h, rfl, by simp [evData, PyData.eqv]⟩
theorem ents_shape : ∀ {es : List Ent}, (∀ e ∈ es, EvOk e.x) → PyData.canLayAll0 (es.map entData) = true ∧ PyData.depthAll (es.map entData) ≤ 1 ∧ PyData.eqvAll (es.map entData) (es.map entData) = true
  | [], _ => ⟨rfl, Nat.zero_le _, rfl⟩
  | e :: es, h => by
    obtain ⟨a, b, c⟩ := ents_shape (es := es) fun x hx => h x (.tail _ hx)
    obtain ⟨a', b', c'⟩ := ev_shape e.x (h e (.head _))
    simp [List.map_cons, PyData.canLayAll0, PyData.depthAll, PyData.eqvAll, entData, PyData.canLay0, PyData.depth, PyData.eqv, a, c, a', b', c']
    omega
section
variable {prog : Program} {w : World} {A : Around} {E : Value → Shared → Prop} {s : Shared} {Q : Value → Shared → Prop}
theorem logs_eq {a b : Addr} {es : List Ent} (ha : LogIs s.heap a es) (hb : LogIs s.heap b es) (h : ∀ e ∈ es, EvOk e.x) (hu : A.units + 64 < cLine) (q : Q (.bool true) s) : wpAny (model prog w) A (compareOp .Eq (.ref a) (.ref b)) Q E s := by
  obtain ⟨x, y, z⟩ := ents_shape h
  have sh : SeqAt.shaped (.list (es.map entData)) = true := by
    unfold SeqAt.shaped
    rw [show PyData.canLay0 (.list (es.map entData)) = PyData.canLayAll0 (es.map entData) from rfl, x, Bool.true_and]
    refine decide_eq_true ?_
    show PyData.depthAll (es.map entData) + 1 ≤ 64
    omega
  refine eq_dataH (reads_log ha) (reads_log hb) sh sh hu ?_
  rw [show PyData.eqv (.list (es.map entData)) (.list (es.map entData)) = PyData.eqvAll (es.map entData) (es.map entData) from rfl, z]
  exact q
end
theorem ofString_ok (s : String) : PyData.strOk (Str.ofString s) = true := by
  rw [Str.ofString_eq_toList]
  unfold PyData.strOk
  rw [List.all_toArray, List.all_eq_true]
  intro x hx
  obtain ⟨c, _, rfl⟩ := List.mem_map.mp hx
  exact decide_eq_true (Nat.lt_of_lt_of_le (Nat.lt_succ_of_le (by
    have := c.valid
    rcases this with h | ⟨_, h⟩
    · have : c.toNat < 0xd800 := h
      omega
    · have : c.toNat < 0x110000 := h
      omega)) (Nat.le_refl _))
theorem append_ok {a b : Str} (ha : PyData.strOk a = true) (hb : PyData.strOk b = true) : PyData.strOk (a ++ b) = true := by
  unfold PyData.strOk at *
  show (a.cps ++ b.cps).all _ = true
  rw [Array.all_append, ha, hb]
  rfl
theorem textOf_ok (j : Nat) : PyData.strOk (textOf j) = true := append_ok (ofString_ok _) (ofString_ok _)
/-- what the law's own nodes are -/
structure NdGood (d : Nd) : Prop where
  ok : d.Ok
  place : EvOk d.place
def firstNd (lt : Int) (k : Nat) : Nd := if k = 0 then ⟨-1, 0, 0, .none, lt, 0⟩ else ⟨0, 1, 1, .str (Str.ofString ""), 0, 0⟩
theorem zero3 : (0 : Int) ≤ 3 := by decide
theorem first_ok {lt : Int} (l0 : 0 ≤ lt) (l3 : lt ≤ 3) (i : Nat) (hi : i < 2) : NdGood (firstNd lt i) := by
  unfold firstNd
  split
  · exact ⟨⟨⟨Int.le_refl 0, zero3⟩, ⟨l0, l3⟩, ⟨Int.le_refl 0, zero3⟩, .inl rfl⟩, trivial⟩
  · exact ⟨⟨⟨by decide, by decide⟩, ⟨by decide, by decide⟩, ⟨by decide, by decide⟩, .inr ⟨_, rfl⟩⟩, ofString_ok _⟩
section
variable {nd : Nat → Nd} {len : Nat}
theorem shown_ok {d : Nd} {j : Nat} (h : EvOk d.place) : EvOk (shownOf d j).x := by
  unfold shownOf
  split
  · trivial
  · exact h
theorem kidsTold_ok {u : Nat → Int} {t : Nat → List Ent} {j : Nat} : ∀ {k o : Nat}, (∀ i, o ≤ i → i < o + k → ∀ e ∈ t i, EvOk e.x) → ∀ e ∈ kidsTold nd u t j k o, EvOk e.x
  | 0, _, _, e, he => nomatch he
  | k + 1, o, h, e, he => by
    have r : ∀ e ∈ kidsTold nd u t j k (o + 1), EvOk e.x := kidsTold_ok fun i h1 h2 => h i (by omega) (by omega)
    unfold kidsTold at he
    split at he
    · rcases List.mem_append.mp he with he | he
      · exact h o (Nat.le_refl _) (by omega) e he
      · split at he
        · cases he
        · exact r e he
    · exact r e he
theorem told_evs (hp : ∀ i, i < len → EvOk (nd i).place) : ∀ (d j : Nat), len ≤ j + d → j < len → ∀ e ∈ told nd len j, EvOk e.x
  | 0, j, h1, h2 => by omega
  | d + 1, j, h1, h2 => by
    intro e he
    rw [told_step h2] at he
    unfold stepTold at he
    have k := kidsTold_ok (nd := nd) (u := out nd len) (t := told nd len) (j := j) (k := len - (j + 1)) (o := j + 1) fun i a b => told_evs hp d i (by omega) (by omega)
    rcases List.mem_cons.mp he with rfl | he
    · exact ofString_ok _
    split at he
    · cases he
    · rcases List.mem_cons.mp he with rfl | he
      · exact textOf_ok j
      · rcases List.mem_append.mp he with he | he
        · exact k e he
        · rcases List.mem_cons.mp he with rfl | he
          · exact shown_ok (hp j h2)
          · split at he
            · cases he
            · cases List.mem_singleton.mp he
              trivial
end
theorem nd_keep {h h' : Heap} {t : Addr} {d : Nd} (k : ∀ b o, h.get? b = some o → h'.get? b = some o) : NdIs h t d → NdIs h' t d
  | ⟨t1, t2, t3, x, t5, t6, ⟨o, ho, r⟩, hx⟩ => ⟨t1, t2, t3, x, t5, t6, ⟨o, k _ _ ho, r⟩, hx⟩
theorem ledger_outs {g h h₅ : Heap} {L nl D ou : Addr} {m : Str → Option Value} {o1 o2 o3 oo : Obj} {tups : List (Addr × Obj)} (F : Fr g L h m) (N : News g L h [(nl, o1), (D, o2), (72, o3)]) (kp : ∀ b o, h.get? b = some o → h₅.get? b = some o) (fr : h.get? ou = none) (e : h₅.get? ou = some oo)
    (u : ∀ p ∈ tups, (h₅.get? p.1 = some p.2 ∧ p.1 ≠ L ∧ g.get? p.1 = none) ∧ p.2.cls = .type "tuple") : News g L h₅ ((nl, o1) :: (72, o3) :: (ou, oo) :: tups) := by
  intro q hq
  rcases List.mem_cons.mp hq with rfl | hq
  · exact ⟨kp _ _ (N _ (.head _)).1, (N _ (.head _)).2⟩
  · rcases List.mem_cons.mp hq with rfl | hq
    · have z := N _ (.tail _ (.tail _ (.head _)))
      exact ⟨kp _ _ z.1, z.2⟩
    · rcases List.mem_cons.mp hq with rfl | hq
      · refine ⟨e, fun q => ?_, ?_⟩
        · obtain ⟨oL, _, _, l1, _⟩ := F.ns
          have q' : ou = L := q
          rw [q', l1] at fr
          cases fr
        · show g.get? ou = none
          cases x : g.get? ou with
          | none => rfl
          | some o =>
            rw [F.keep _ _ x] at fr
            cases fr
      · exact (u q hq).1
theorem outs_at0 {prog : Program} {w : World} {A : Around} {E : Value → Shared → Prop} {s : Shared} {Q : Value → Shared → Prop} {value slice : Expr} {ou : Addr} {len : Nat} {uu : Nat → Int} {u : Tok} (N : OutsIs s.heap ou len uu) (hl : 0 < len) (h : ∀ t, Q (.int (uu 0) t) s)
    (hs : subscripted slice false (.ref ou) (.int 0 u) = operate [.ref ou, .int 0 u] (getItem (.ref ou) (.int 0 u)) := by with_unfolding_all rfl) :
    wpAny (model prog w) A (subscriptTail value slice (.ref ou) (.int 0 u)) Q E s := by
  obtain ⟨its, hl', hz, ha⟩ := N
  obtain ⟨t, e⟩ := ha 0 hl
  exact tail_any hl'.typeIs slot_list_getitem.lookup (wpAny_getItem_list hl' (Int.le_refl 0) (by decide) e (h t)) hs
theorem allLt_get {d : Addr} {p : Addr × Obj} : ∀ {l : List (Addr × Obj)}, AllLt d l → p ∈ l → @LT.lt Nat _ p.1 d
  | [], _, hq => nomatch hq
  | a :: r, h, hq => by
    rcases List.mem_cons.mp hq with e | hq
    · rw [e]
      exact h.1
    · exact allLt_get h.2 hq
theorem cls_apart {h : Heap} {a : Addr} {o : Obj} {T : String} (e : h.get? 72 = some (tabObj #[])) (hp : h.get? a = some o) (hc : o.cls = .type T) : a ≠ 72 := fun q => by
  rw [q, e] at hp
  have z := congrArg Obj.cls (Option.some.inj hp)
  rw [hc] at z
  have z' : Value.none = Value.type T := z
  cases z'
theorem news_nil {g h : Heap} {L : Addr} {m : Str → Option Value} (F : Fr g L h m) : News g L h [] := fun z hz => nomatch hz
theorem int_eq_self {prog : Program} {w : World} {A : Around} {E : Value → Shared → Prop} {s : Shared} {Q : Value → Shared → Prop} {x : Int} {t u : Tok} (h : Q (.bool true) s) : wpAny (model prog w) A (compareOp .Eq (.int x t) (.int x u)) Q E s :=
  eq_int (by rw [beq_self_eq_true]; exact h)

/-! F23 -/
theorem mem_skip {α : Type} {a b1 b2 b3 b4 b5 b6 b7 b8 x : α} {l : List α} (h : x ∈ a :: l) : x ∈ a :: b1 :: b2 :: b3 :: b4 :: b5 :: b6 :: b7 :: b8 :: l := by
  rcases List.mem_cons.mp h with rfl | h
  · exact .head _
  · exact .tail _ (.tail _ (.tail _ (.tail _ (.tail _ (.tail _ (.tail _ (.tail _ (.tail _ h))))))))
def PlaceG (v : Value) : Prop := ∃ x : EV, x.Is v ∧ (x = .none ∨ ∃ y, x = .str y) ∧ EvOk x
section
local macro_rules | `(tactic| walk_at "exec For Name Name cons nil") => `(tactic| (k_here; refine hold_For ?_))
theorem law_d1 {len : Nat} (h : len ≤ 10) : callerA.depth + 1 + (50 * len + 70) < recursionLimit := by
  have rl : callerA.depth + 601 < recursionLimit := by decide
  omega
theorem law_d2 {len : Nat} (h : len ≤ 10) : callerA.depth + 1 + (20 * (len - 0) + 20) < recursionLimit := by
  have rl : callerA.depth + 601 < recursionLimit := by decide
  omega
theorem law_u1 {len : Nat} (h : len ≤ 10) : callerA.units + 3 + (200 * len + 720) < cLine := by
  have ul : callerA.units + 4000 < cLine := by decide
  omega
theorem law_u2 {len : Nat} (h : len ≤ 10) : callerA.units + 3 + (100 * (len - 0) + 200) < cLine := by
  have ul : callerA.units + 4000 < cLine := by decide
  omega
theorem law_fit {nd : Nat → Nd} {len : Nat} (h : len ≤ 10) (h0 : 0 < len) : ([] : List Ent).length + (told nd len 0).length ≤ 100000 := by
  have := told_len (nd := nd) (len := len) len 0 (by omega) h0
  have p9 : 2 ^ (len - 1 - 0) ≤ 2 ^ 9 := Nat.pow_le_pow_right (by decide) (by omega)
  have : (2 : Nat) ^ 9 = 512 := by decide
  simp only [List.length_nil]
  omega
theorem len_up (len : Nat) : len ≤ 0 + len := Nat.le_of_eq (Nat.zero_add len).symm
theorem law_holds : PySem.Challenge.rw_kl0226_01.Holds := hd (by
  k_go0
  (all_goals try k_fold)
  repeat' (first | ((with_reducible show wpAny _ _ (subscriptTail _ _ (Value.ref _) (Value.int _ _)) _ _ _); refine held_out ?_) | ((with_reducible show wpAny _ _ (getItem (Value.ref _) (Value.int _ _)) _ _ _); refine held_out ?_) | ((with_reducible show wpAny _ _ (setItem (Value.ref _) (Value.int _ _) _) _ _ _); refine held_out ?_) | ((with_reducible show wpAny _ _ (call (Value.ref _) _) _ _ _); refine hold_call ?_) | ((with_reducible show wpAny _ _ (call (Value.builtin "list.append") _) _ _ _); refine held_out ?_) | ((with_reducible show wpAny _ _ (compareOp CmpOp.Eq (Value.ref _) (Value.ref _)) _ _ _); refine held_out ?_) | ((with_reducible show wpAny _ _ (compareOp CmpOp.Eq (Value.int _ _) (Value.int _ _)) _ _ _); refine held_out ?_) | (k_unfold; (try dsimp only)) | (k_end; wrow_close) | walk1 | (dsimp only; walk1) | (leave1; try dsimp only) | fail "no step")
  rename ¬ _ < _ => hlen
  rename_i lO hx0 lt0 hx1 tkx D hx2 i1 n1 s1 e1 e2 e3 lt1 h₁ F₁ N₁ h₂ eA F₂ N₂ S₀
  have n1le : n1 ≤ 8 := by
    have h := e3 (by split <;> omega)
    split at h <;> omega
  refine draws_loop S₀ rfl i1 e1 ?_ ?_
  · intro i a t ta its n us own h tk hi I hu hown F N
    clear F₁ F₂ N₁ N₂ S₀
    have hb := mod_at hi (d := n1) ((e3 (by split <;> omega)).trans (by omega))
    rw [← hu] at hb
    change wpAny _ _ _ _ _ _
    (try k_fold)
    repeat' (first | ((with_reducible show wpAny _ _ (subscriptTail _ _ (Value.ref _) (Value.int _ _)) _ _ _); refine held_out ?_) | ((with_reducible show wpAny _ _ (getItem (Value.ref _) (Value.int _ _)) _ _ _); refine held_out ?_) | ((with_reducible show wpAny _ _ (setItem (Value.ref _) (Value.int _ _) _) _ _ _); refine held_out ?_) | ((with_reducible show wpAny _ _ (call (Value.ref _) _) _ _ _); refine hold_call ?_) | ((with_reducible show wpAny _ _ (call (Value.builtin "list.append") _) _ _ _); refine held_out ?_) | ((with_reducible show wpAny _ _ (compareOp CmpOp.Eq (Value.ref _) (Value.ref _)) _ _ _); refine held_out ?_) | ((with_reducible show wpAny _ _ (compareOp CmpOp.Eq (Value.int _ _) (Value.int _ _)) _ _ _); refine held_out ?_) | (k_unfold; (try dsimp only)) | (k_end; wrow_close) | walk1 | (dsimp only; walk1) | (leave1; try dsimp only) | fail "no step")
    refine held (draws_get N I hb.1 hb.2.1 hb.2.2 fun tg => ?_)
    repeat' (first | ((with_reducible show wpAny _ _ (subscriptTail _ _ (Value.ref _) (Value.int _ _)) _ _ _); refine held_out ?_) | ((with_reducible show wpAny _ _ (getItem (Value.ref _) (Value.int _ _)) _ _ _); refine held_out ?_) | ((with_reducible show wpAny _ _ (setItem (Value.ref _) (Value.int _ _) _) _ _ _); refine held_out ?_) | ((with_reducible show wpAny _ _ (call (Value.ref _) _) _ _ _); refine hold_call ?_) | ((with_reducible show wpAny _ _ (call (Value.builtin "list.append") _) _ _ _); refine held_out ?_) | ((with_reducible show wpAny _ _ (compareOp CmpOp.Eq (Value.ref _) (Value.ref _)) _ _ _); refine held_out ?_) | ((with_reducible show wpAny _ _ (compareOp CmpOp.Eq (Value.int _ _) (Value.int _ _)) _ _ _); refine held_out ?_) | (k_unfold; (try dsimp only)) | (k_end; wrow_close) | walk1 | (dsimp only; walk1) | (leave1; try dsimp only) | fail "no step")
    refine held (draws_set F N ?_ I hb.1 hb.2.1 hb.2.2 fun h₄ F₄ N₄ I₄ => ?_)
    · intro p hp
      rcases List.mem_cons.mp hp with rfl | hp
      · exact Nat.ne_of_lt lt1.1
      · rcases List.mem_cons.mp hp with rfl | hp
        · exact Nat.ne_of_lt lt1.2
        · exact hown p hp
    · repeat' (first | ((with_reducible show wpAny _ _ (subscriptTail _ _ (Value.ref _) (Value.int _ _)) _ _ _); refine held_out ?_) | ((with_reducible show wpAny _ _ (getItem (Value.ref _) (Value.int _ _)) _ _ _); refine held_out ?_) | ((with_reducible show wpAny _ _ (setItem (Value.ref _) (Value.int _ _) _) _ _ _); refine held_out ?_) | ((with_reducible show wpAny _ _ (call (Value.ref _) _) _ _ _); refine hold_call ?_) | ((with_reducible show wpAny _ _ (call (Value.builtin "list.append") _) _ _ _); refine held_out ?_) | ((with_reducible show wpAny _ _ (compareOp CmpOp.Eq (Value.ref _) (Value.ref _)) _ _ _); refine held_out ?_) | ((with_reducible show wpAny _ _ (compareOp CmpOp.Eq (Value.int _ _) (Value.int _ _)) _ _ _); refine held_out ?_) | (k_unfold; (try dsimp only)) | (k_end; wrow_close) | walk1 | (dsimp only; walk1) | (leave1; try dsimp only) | fail "no step")
      exact held ⟨rfl, _, _, _, _, _, rfl, F₄, N₄, I₄, by rw [List.length_set]; exact hu⟩
  · intro h tk its n us vi vc F N I hu
    clear F₁ F₂ N₁ N₂ S₀
    change wpAny _ _ _ _ _ _
    (try k_fold)
    repeat' (first | ((with_reducible show wpAny _ _ (subscriptTail _ _ (Value.ref _) (Value.int _ _)) _ _ _); refine held_out ?_) | ((with_reducible show wpAny _ _ (getItem (Value.ref _) (Value.int _ _)) _ _ _); refine held_out ?_) | ((with_reducible show wpAny _ _ (setItem (Value.ref _) (Value.int _ _) _) _ _ _); refine held_out ?_) | ((with_reducible show wpAny _ _ (call (Value.ref _) _) _ _ _); refine hold_call ?_) | ((with_reducible show wpAny _ _ (call (Value.builtin "list.append") _) _ _ _); refine held_out ?_) | ((with_reducible show wpAny _ _ (compareOp CmpOp.Eq (Value.ref _) (Value.ref _)) _ _ _); refine held_out ?_) | ((with_reducible show wpAny _ _ (compareOp CmpOp.Eq (Value.int _ _) (Value.int _ _)) _ _ _); refine held_out ?_) | (k_unfold; (try dsimp only)) | (k_end; wrow_close) | walk1 | (dsimp only; walk1) | (leave1; try dsimp only) | fail "no step")
    have hu8 : us.length ≤ 8 := by rw [hu]; exact n1le
    rename_i TA hA FA NA lA hB tkB tB FB NB
    have hm5 := mod_in us.sum (b := 5) (by decide)
    refine held (menu (P := Small) NB (.head _) hm5.1 hm5.2 (Int.lt_trans hm5.2 (by decide)) ?_ fun v hv => ?_)
    · intro v hv
      simp only [List.mem_cons, List.not_mem_nil, or_false] at hv
      rcases hv with rfl | rfl | rfl | rfl | rfl <;> exact ⟨_, _, rfl, by decide, by decide⟩
    obtain ⟨lt, tl, rfl, l0, l3⟩ := hv
    repeat' (first | ((with_reducible show wpAny _ _ (subscriptTail _ _ (Value.ref _) (Value.int _ _)) _ _ _); refine held_out ?_) | ((with_reducible show wpAny _ _ (getItem (Value.ref _) (Value.int _ _)) _ _ _); refine held_out ?_) | ((with_reducible show wpAny _ _ (setItem (Value.ref _) (Value.int _ _) _) _ _ _); refine held_out ?_) | ((with_reducible show wpAny _ _ (call (Value.ref _) _) _ _ _); refine hold_call ?_) | ((with_reducible show wpAny _ _ (call (Value.builtin "list.append") _) _ _ _); refine held_out ?_) | ((with_reducible show wpAny _ _ (compareOp CmpOp.Eq (Value.ref _) (Value.ref _)) _ _ _); refine held_out ?_) | ((with_reducible show wpAny _ _ (compareOp CmpOp.Eq (Value.int _ _) (Value.int _ _)) _ _ _); refine held_out ?_) | (k_unfold; (try dsimp only)) | (k_end; wrow_close) | walk1 | (dsimp only; walk1) | (leave1; try dsimp only) | fail "no step")
    rename_i T1 hx3 q1 T2 hx4 q2 nl hx5 q3 hC FC NC
    refine held (For_list ?_)
    change wpAny _ _ _ _ _ _
    (try k_fold)
    repeat' (first | ((with_reducible show wpAny _ _ (subscriptTail _ _ (Value.ref _) (Value.int _ _)) _ _ _); refine held_out ?_) | ((with_reducible show wpAny _ _ (getItem (Value.ref _) (Value.int _ _)) _ _ _); refine held_out ?_) | ((with_reducible show wpAny _ _ (setItem (Value.ref _) (Value.int _ _) _) _ _ _); refine held_out ?_) | ((with_reducible show wpAny _ _ (call (Value.ref _) _) _ _ _); refine hold_call ?_) | ((with_reducible show wpAny _ _ (call (Value.builtin "list.append") _) _ _ _); refine held_out ?_) | ((with_reducible show wpAny _ _ (compareOp CmpOp.Eq (Value.ref _) (Value.ref _)) _ _ _); refine held_out ?_) | ((with_reducible show wpAny _ _ (compareOp CmpOp.Eq (Value.int _ _) (Value.int _ _)) _ _ _); refine held_out ?_) | (k_unfold; (try dsimp only)) | (k_end; wrow_close) | walk1 | (dsimp only; walk1) | (leave1; try dsimp only) | fail "no step")
    refine held ⟨D, its, rfl, ⟨_, (NC _ (.tail _ (.tail _ (.tail _ (.tail _ (.head _)))))).1, rfl, _, rfl⟩, ?_⟩
    have kpC : ∀ b o, hC.get? b = some o → (hC.push { cls := .type "list_iterator", data := .fields #[.ref D, .int 0 0] }).get? b = some o := fun b o q => Heap.get?_push_of_some _ q
    refine nodes_loop NdGood (Fr.on FC kpC) (len := 2) (its := #[.ref T1, .ref T2]) (n := 0) (dits := its) (dn := n) (nd₀ := firstNd lt) rfl rfl rfl rfl (y := Str.ofString "nodes") (by decide) ⟨_, Heap.get?_push_size _ rfl, rfl, rfl⟩ (Nat.ne_of_gt FC.ns.lt)
      (Heap.get?_none_of_le (Nat.le_trans FC.above (Nat.le_of_lt FC.ns.lt))) I rfl (fun p hp => ?_) (Nat.ne_of_gt q3.2.2.2.1) ⟨rfl, fun i hi => ?_⟩ (fun i hi => ?_) ?_ ?_
    · rcases List.mem_cons.mp hp with rfl | hp
      · exact ⟨kpC _ _ (NC _ (.head _)).1, (NC _ (.head _)).2⟩
      · rcases List.mem_cons.mp hp with rfl | hp
        · have z := NC _ (.tail _ (.tail _ (.tail _ (.tail _ (.head _)))))
          exact ⟨kpC _ _ z.1, z.2⟩
        · cases List.mem_singleton.mp hp
          have z := NC _ (.tail _ (.tail _ (.tail _ (.tail _ (.tail _ (.tail _ (.head _)))))))
          exact ⟨kpC _ _ z.1, z.2⟩
    · match i, hi with
      | 0, _ => exact ⟨T1, rfl, _, _, _, _, _, _, ⟨_, kpC _ _ (NC _ (.tail _ (.tail _ (.head _)))).1, rfl, _, rfl⟩, rfl⟩
      | 1, _ => exact ⟨T2, rfl, _, _, _, _, _, _, ⟨_, kpC _ _ (NC _ (.tail _ (.head _))).1, rfl, _, rfl⟩, ⟨_, rfl⟩⟩
    · exact first_ok l0 l3 i hi
    · intro i a ta m h tk its n oi tups hi hz F tne ine N
      refine wpAny_passesOwn ?_ ?_
      · repeat' (first | ((with_reducible show wpAny _ _ (subscriptTail _ _ (Value.ref _) (Value.int _ _)) _ _ _); refine held_out ?_) | ((with_reducible show wpAny _ _ (getItem (Value.ref _) (Value.int _ _)) _ _ _); refine held_out ?_) | ((with_reducible show wpAny _ _ (setItem (Value.ref _) (Value.int _ _) _) _ _ _); refine held_out ?_) | ((with_reducible show wpAny _ _ (call (Value.ref _) _) _ _ _); refine hold_call ?_) | ((with_reducible show wpAny _ _ (call (Value.builtin "list.append") _) _ _ _); refine held_out ?_) | ((with_reducible show wpAny _ _ (compareOp CmpOp.Eq (Value.ref _) (Value.ref _)) _ _ _); refine held_out ?_) | ((with_reducible show wpAny _ _ (compareOp CmpOp.Eq (Value.int _ _) (Value.int _ _)) _ _ _); refine held_out ?_) | (k_unfold; (try dsimp only)) | (k_end; wrow_close) | walk1 | (dsimp only; walk1) | (leave1; try dsimp only) | fail "no step")
      clear FC NC
      change wpAny _ _ _ _ _ _
      (try k_fold)
      repeat' (first | ((with_reducible show wpAny _ _ (subscriptTail _ _ (Value.ref _) (Value.int _ _)) _ _ _); refine held_out ?_) | ((with_reducible show wpAny _ _ (getItem (Value.ref _) (Value.int _ _)) _ _ _); refine held_out ?_) | ((with_reducible show wpAny _ _ (setItem (Value.ref _) (Value.int _ _) _) _ _ _); refine held_out ?_) | ((with_reducible show wpAny _ _ (call (Value.ref _) _) _ _ _); refine hold_call ?_) | ((with_reducible show wpAny _ _ (call (Value.builtin "list.append") _) _ _ _); refine held_out ?_) | ((with_reducible show wpAny _ _ (compareOp CmpOp.Eq (Value.ref _) (Value.ref _)) _ _ _); refine held_out ?_) | ((with_reducible show wpAny _ _ (compareOp CmpOp.Eq (Value.int _ _) (Value.int _ _)) _ _ _); refine held_out ?_) | (k_unfold; (try dsimp only)) | (k_end; wrow_close) | walk1 | (dsimp only; walk1) | (leave1; try dsimp only) | fail "no step")
      have M4 := mod_in (a.fdiv ((2 + i : Nat) : Int)) (b := 4) (by decide)
      have M4' : (a.fdiv ((2 + i : Nat) : Int)).fmod 4 ≤ 3 := by have := M4.2; omega
      have M3 := mod_in (((a.fdiv ((2 + i : Nat) : Int)).fdiv 4).fdiv 2) (b := 3) (by decide)
      have M6 := mod_in ((((a.fdiv ((2 + i : Nat) : Int)).fdiv 4).fdiv 2).fdiv 3) (b := 6) (by decide)
      have M6' := mod_in (((((a.fdiv ((2 + i : Nat) : Int)).fdiv 4).fdiv 2).fdiv 3).fdiv 6) (b := 6) (by decide)
      rename News _ _ _ _ => NP
      refine held (menu (P := PlaceG) NP (.head _) M3.1 M3.2 (Int.lt_trans M3.2 (by decide)) ?_ fun v hv => ?_)
      · intro v hv
        simp only [List.mem_cons, List.not_mem_nil, or_false] at hv
        rcases hv with rfl | rfl | rfl
        · exact ⟨.none, rfl, .inl rfl, trivial⟩
        · exact ⟨.str _, ⟨_, rfl⟩, .inr ⟨_, rfl⟩, ofString_ok _⟩
        · exact ⟨.str _, ⟨_, rfl⟩, .inr ⟨_, rfl⟩, ofString_ok _⟩
      obtain ⟨xP, p1, p2, p3⟩ := hv
      repeat' (first | ((with_reducible show wpAny _ _ (subscriptTail _ _ (Value.ref _) (Value.int _ _)) _ _ _); refine held_out ?_) | ((with_reducible show wpAny _ _ (getItem (Value.ref _) (Value.int _ _)) _ _ _); refine held_out ?_) | ((with_reducible show wpAny _ _ (setItem (Value.ref _) (Value.int _ _) _) _ _ _); refine held_out ?_) | ((with_reducible show wpAny _ _ (call (Value.ref _) _) _ _ _); refine hold_call ?_) | ((with_reducible show wpAny _ _ (call (Value.builtin "list.append") _) _ _ _); refine held_out ?_) | ((with_reducible show wpAny _ _ (compareOp CmpOp.Eq (Value.ref _) (Value.ref _)) _ _ _); refine held_out ?_) | ((with_reducible show wpAny _ _ (compareOp CmpOp.Eq (Value.int _ _) (Value.int _ _)) _ _ _); refine held_out ?_) | (k_unfold; (try dsimp only)) | (k_end; wrow_close) | walk1 | (dsimp only; walk1) | (leave1; try dsimp only) | fail "no step")
      rename News _ _ _ _ => NL
      refine held (menu (P := Small) NL (.head _) M6.1 M6.2 (Int.lt_trans M6.2 (by decide)) ?_ fun v hv => ?_)
      · intro v hv
        simp only [List.mem_cons, List.not_mem_nil, or_false] at hv
        rcases hv with rfl | rfl | rfl | rfl | rfl | rfl <;> exact ⟨_, _, rfl, by decide, by decide⟩
      obtain ⟨xl, tl', rfl, xl0, xl3⟩ := hv
      repeat' (first | ((with_reducible show wpAny _ _ (subscriptTail _ _ (Value.ref _) (Value.int _ _)) _ _ _); refine held_out ?_) | ((with_reducible show wpAny _ _ (getItem (Value.ref _) (Value.int _ _)) _ _ _); refine held_out ?_) | ((with_reducible show wpAny _ _ (setItem (Value.ref _) (Value.int _ _) _) _ _ _); refine held_out ?_) | ((with_reducible show wpAny _ _ (call (Value.ref _) _) _ _ _); refine hold_call ?_) | ((with_reducible show wpAny _ _ (call (Value.builtin "list.append") _) _ _ _); refine held_out ?_) | ((with_reducible show wpAny _ _ (compareOp CmpOp.Eq (Value.ref _) (Value.ref _)) _ _ _); refine held_out ?_) | ((with_reducible show wpAny _ _ (compareOp CmpOp.Eq (Value.int _ _) (Value.int _ _)) _ _ _); refine held_out ?_) | (k_unfold; (try dsimp only)) | (k_end; wrow_close) | walk1 | (dsimp only; walk1) | (leave1; try dsimp only) | fail "no step")
      rename News _ _ _ _ => NE
      refine held (menu (P := Small) NE (.head _) M6'.1 M6'.2 (Int.lt_trans M6'.2 (by decide)) ?_ fun v hv => ?_)
      · intro v hv
        simp only [List.mem_cons, List.not_mem_nil, or_false] at hv
        rcases hv with rfl | rfl | rfl | rfl | rfl | rfl <;> exact ⟨_, _, rfl, by decide, by decide⟩
      obtain ⟨xe, te', rfl, xe0, xe3⟩ := hv
      repeat' (first | ((with_reducible show wpAny _ _ (subscriptTail _ _ (Value.ref _) (Value.int _ _)) _ _ _); refine held_out ?_) | ((with_reducible show wpAny _ _ (getItem (Value.ref _) (Value.int _ _)) _ _ _); refine held_out ?_) | ((with_reducible show wpAny _ _ (setItem (Value.ref _) (Value.int _ _) _) _ _ _); refine held_out ?_) | ((with_reducible show wpAny _ _ (call (Value.ref _) _) _ _ _); refine hold_call ?_) | ((with_reducible show wpAny _ _ (call (Value.builtin "list.append") _) _ _ _); refine held_out ?_) | ((with_reducible show wpAny _ _ (compareOp CmpOp.Eq (Value.ref _) (Value.ref _)) _ _ _); refine held_out ?_) | ((with_reducible show wpAny _ _ (compareOp CmpOp.Eq (Value.int _ _) (Value.int _ _)) _ _ _); refine held_out ?_) | (k_unfold; (try dsimp only)) | (k_end; wrow_close) | walk1 | (dsimp only; walk1) | (leave1; try dsimp only) | fail "no step")
      rename News _ _ _ _ => NT
      rename Fr _ _ _ _ => FT
      have NS := fun q hq => NT q (mem_skip hq)
      refine held (append_K FT NS (.tail (ne_tup (NS _ (.head _)).1 (NS _ (.tail _ (.head _))).1) (.head fun p hp => ?_)) (fun h₆ F₆ N₆ => ?_) (le_line (n := 2 + 8) (by rw [hz]; exact Nat.add_le_add_left (Nat.le_of_lt (Nat.lt_of_lt_of_le hi hu8)) 2) (by decide)))
      · rcases List.mem_cons.mp hp with rfl | hp
        · exact ine.1
        · rcases List.mem_cons.mp hp with rfl | hp
          · exact ine.2.1
          · rcases List.mem_cons.mp hp with rfl | hp
            · exact ine.2.2
            · exact tne p hp
      clear NT FT NS
      repeat' (first | ((with_reducible show wpAny _ _ (subscriptTail _ _ (Value.ref _) (Value.int _ _)) _ _ _); refine held_out ?_) | ((with_reducible show wpAny _ _ (getItem (Value.ref _) (Value.int _ _)) _ _ _); refine held_out ?_) | ((with_reducible show wpAny _ _ (setItem (Value.ref _) (Value.int _ _) _) _ _ _); refine held_out ?_) | ((with_reducible show wpAny _ _ (call (Value.ref _) _) _ _ _); refine hold_call ?_) | ((with_reducible show wpAny _ _ (call (Value.builtin "list.append") _) _ _ _); refine held_out ?_) | ((with_reducible show wpAny _ _ (compareOp CmpOp.Eq (Value.ref _) (Value.ref _)) _ _ _); refine held_out ?_) | ((with_reducible show wpAny _ _ (compareOp CmpOp.Eq (Value.int _ _) (Value.int _ _)) _ _ _); refine held_out ?_) | (k_unfold; (try dsimp only)) | (k_end; wrow_close) | walk1 | (dsimp only; walk1) | (leave1; try dsimp only) | fail "no step")
      refine held ⟨rfl, _, _, _, _, ⟨_, _, _, xP, xl, xe⟩, _, rfl, F₆, rfl, ?_, ⟨_, _, _, _, _, _, ⟨_, (N₆ _ (.head _)).1, rfl, _, rfl⟩, p1⟩, fun p hp => N₆ p (.tail _ hp)⟩
      exact ⟨⟨⟨M4.1, M4'⟩, ⟨xl0, xl3⟩, ⟨xe0, xe3⟩, p2⟩, p3⟩
    · intro h tk m its n nd F N A hok hfix
      have he0 : (nd 0).entry = 0 := by rw [hfix 0 (by decide)]; rfl
      dsimp only
      change wpAny _ _ _ _ _ _
      (try k_fold)
      repeat' (first | ((with_reducible show wpAny _ _ (subscriptTail _ _ (Value.ref _) (Value.int _ _)) _ _ _); refine held_out ?_) | ((with_reducible show wpAny _ _ (getItem (Value.ref _) (Value.int _ _)) _ _ _); refine held_out ?_) | ((with_reducible show wpAny _ _ (setItem (Value.ref _) (Value.int _ _) _) _ _ _); refine held_out ?_) | ((with_reducible show wpAny _ _ (call (Value.ref _) _) _ _ _); refine hold_call ?_) | ((with_reducible show wpAny _ _ (call (Value.builtin "list.append") _) _ _ _); refine held_out ?_) | ((with_reducible show wpAny _ _ (compareOp CmpOp.Eq (Value.ref _) (Value.ref _)) _ _ _); refine held_out ?_) | ((with_reducible show wpAny _ _ (compareOp CmpOp.Eq (Value.int _ _) (Value.int _ _)) _ _ _); refine held_out ?_) | (k_unfold; (try dsimp only)) | (k_end; wrow_close) | walk1 | (dsimp only; walk1) | (leave1; try dsimp only) | fail "no step")
      rename Frag.In _ _ => X₀
      rename Top _ _ _ _ _ _ => T₀
      rename Below _ _ _ _ => K₀
      have b₀ : Base _ _ _ _ _ _ _ := ⟨X₀, T₀, codeHd⟩
      have len10 : 2 + us.length ≤ 10 := Nat.add_le_add_left hu8 2
      have len0 : 0 < 2 + us.length := Nat.lt_of_lt_of_le (by decide) (Nat.le_add_right 2 _)
      generalize hlen' : 2 + us.length = len at A hok len10 len0
      have len100 : len ≤ 100 := Nat.le_trans len10 (by decide)
      have ok' : ∀ i, i < len → (nd i).Ok := fun i hi => (hok i hi).ok
      refine held (outs_spec b₀ ok' len100 rfl (fun b o q => F.keep b o q) (pushX K₀ F rfl rfl).frames rfl ?_ ?_ (A.is (N _ (.head _)).1) (fun h₅ tk₅ ou kp fr hO => ?_))
      · dsimp only [Around.deeper]; decide
      · dsimp only [Around.deeper]; decide
      have F₅ := Fr.on F kp
      obtain ⟨tups, u1, u2⟩ := nodes_split F₅ (kp _ _ (N _ (.head _)).1) (its := its.toList) (nd := nd) (len := len) fun i hi => by
        obtain ⟨t, e, D⟩ := A.2 i hi
        exact ⟨t, e, nd_keep kp D⟩
      obtain ⟨oits, ⟨oo, oo1, oo2, oo3, oo4⟩, ozs, oat⟩ := hO
      have N₅ := ledger_outs F N kp fr oo1 u1
      have hsz := A.1
      clear F N A
      change wpAny _ _ _ _ _ _
      (try k_fold)
      repeat' (first | ((with_reducible show wpAny _ _ (subscriptTail _ _ (Value.ref _) (Value.int _ _)) _ _ _); refine held_out ?_) | ((with_reducible show wpAny _ _ (getItem (Value.ref _) (Value.int _ _)) _ _ _); refine held_out ?_) | ((with_reducible show wpAny _ _ (setItem (Value.ref _) (Value.int _ _) _) _ _ _); refine held_out ?_) | ((with_reducible show wpAny _ _ (call (Value.ref _) _) _ _ _); refine hold_call ?_) | ((with_reducible show wpAny _ _ (call (Value.builtin "list.append") _) _ _ _); refine held_out ?_) | ((with_reducible show wpAny _ _ (compareOp CmpOp.Eq (Value.ref _) (Value.ref _)) _ _ _); refine held_out ?_) | ((with_reducible show wpAny _ _ (compareOp CmpOp.Eq (Value.int _ _) (Value.int _ _)) _ _ _); refine held_out ?_) | (k_unfold; (try dsimp only)) | (k_end; wrow_close) | walk1 | (dsimp only; walk1) | (leave1; try dsimp only) | fail "no step")
      rename_i lg hx7 q7 hD FD ND
      have hND : NodesIs hD nl nd len := ⟨its, ⟨_, (ND _ (.tail _ (.head _))).1, rfl, n, rfl⟩, by rwa [Array.length_toList] at hsz, fun i hi => by
        obtain ⟨t, e, D⟩ := u2 hD FD.keep (fun p hp => (ND p (.tail _ (.tail _ (.tail _ (.tail _ hp))))).1) i hi
        exact ⟨t, by simpa using e, D⟩⟩
      have h72 := ND _ (.tail _ (.tail _ (.head _)))
      have hes : ([] : List Ent).length + (told nd len 0).length ≤ 100000 := law_fit len10 len0
      refine held (caught_spec b₀ ok' (by first | exact len100 | exact len0) (by first | exact len100 | exact len0) he0 (es := []) rfl (fun b o q => FD.keep b o q) (pushX K₀ FD rfl rfl).frames ⟨(ND _ (.head _)).2.2, news_fs K₀ ND rfl (.head _)⟩ ⟨h72.2.2, news_fs K₀ ND rfl (.tail _ (.tail _ (.head _)))⟩ rfl ?_ ?_ hND (Nat.ne_of_lt q7.1) h72.1 ⟨_, _, (ND _ (.head _)).1, trivial⟩ hes (fun h₆ tk₆ tt k6 l6 t6 => ?_))
      · exact law_d1 len10
      · exact law_u1 len10
      obtain ⟨g₂, T₂, F₆, Bw₂, gn, nk⟩ := back K₀ FD ND rfl (X := [lg, 72]) (fun z hz => by
        rcases List.mem_cons.mp hz with rfl | hz
        · exact List.Mem.head _
        · cases List.mem_singleton.mp hz
          exact List.Mem.tail _ (List.Mem.tail _ (List.Mem.head _))) k6
      have k72 : ∀ {p : Addr × Obj}, p ∈ (ou, oo) :: tups → p.1 ∉ [lg, 72] := fun {p} hp hz => by
        rcases List.mem_cons.mp hz with q | q
        · exact Nat.ne_of_lt (allLt_get (l := (ou, oo) :: tups) q7.2.2 hp) q
        · have z := (ND p (.tail _ (.tail _ (.tail _ hp)))).1
          rcases List.mem_cons.mp hp with rfl | hp
          · exact cls_apart h72.1 z oo2 (List.mem_singleton.mp q)
          · exact cls_apart h72.1 z (u1 p hp).2 (List.mem_singleton.mp q)
      have nlX : nl ∉ [lg, 72] := fun hz => by
        rcases List.mem_cons.mp hz with q | q
        · exact Nat.ne_of_lt q7.1 q
        · exact cls_apart h72.1 (ND _ (.tail _ (.head _))).1 rfl (List.mem_singleton.mp q)
      have knl := nk _ (.tail _ (.head _)) nlX
      have kou := nk _ (.tail _ (.tail _ (.tail _ (.head _)))) (k72 (.head _))
      have ktu := fun p hp => nk p (.tail _ (.tail _ (.tail _ (.tail _ hp)))) (k72 (.tail _ hp))
      have hN₆ : NodesIs h₆ nl nd len := ⟨its, ⟨_, knl, rfl, n, rfl⟩, by rwa [Array.length_toList] at hsz, fun i hi => by
        obtain ⟨t, e, D⟩ := u2 h₆ (fun b o q => F₆.keep b o (T₂.obj b o q (fun z => nomatch z) (fun z => nomatch z))) ktu i hi
        exact ⟨t, by simpa using e, D⟩⟩
      have hO₆ : OutsIs h₆ ou len (out nd len) := ⟨oits, ⟨oo, kou, oo2, oo3, oo4⟩, ozs, oat⟩
      have X₂ := X₀.keeps Bw₂.stays
      have Tt₂ := T₀.keeps Bw₂.stays
      have N₆ := news_nil F₆
      rw [List.nil_append] at l6
      clear FD ND X₀ T₀ hND
      change wpAny _ _ _ _ _ _
      (try k_fold)
      repeat' (first | ((with_reducible show wpAny _ _ (subscriptTail _ _ (Value.ref _) (Value.int _ _)) _ _ _); refine held_out ?_) | ((with_reducible show wpAny _ _ (getItem (Value.ref _) (Value.int _ _)) _ _ _); refine held_out ?_) | ((with_reducible show wpAny _ _ (setItem (Value.ref _) (Value.int _ _) _) _ _ _); refine held_out ?_) | ((with_reducible show wpAny _ _ (call (Value.ref _) _) _ _ _); refine hold_call ?_) | ((with_reducible show wpAny _ _ (call (Value.builtin "list.append") _) _ _ _); refine held_out ?_) | ((with_reducible show wpAny _ _ (compareOp CmpOp.Eq (Value.ref _) (Value.ref _)) _ _ _); refine held_out ?_) | ((with_reducible show wpAny _ _ (compareOp CmpOp.Eq (Value.int _ _) (Value.int _ _)) _ _ _); refine held_out ?_) | (k_unfold; (try dsimp only)) | (k_end; wrow_close) | walk1 | (dsimp only; walk1) | (leave1; try dsimp only) | fail "no step")
      refine held (outs_at0 hO₆ len0 fun to => ?_)
      repeat' (first | ((with_reducible show wpAny _ _ (subscriptTail _ _ (Value.ref _) (Value.int _ _)) _ _ _); refine held_out ?_) | ((with_reducible show wpAny _ _ (getItem (Value.ref _) (Value.int _ _)) _ _ _); refine held_out ?_) | ((with_reducible show wpAny _ _ (setItem (Value.ref _) (Value.int _ _) _) _ _ _); refine held_out ?_) | ((with_reducible show wpAny _ _ (call (Value.ref _) _) _ _ _); refine hold_call ?_) | ((with_reducible show wpAny _ _ (call (Value.builtin "list.append") _) _ _ _); refine held_out ?_) | ((with_reducible show wpAny _ _ (compareOp CmpOp.Eq (Value.ref _) (Value.ref _)) _ _ _); refine held_out ?_) | ((with_reducible show wpAny _ _ (compareOp CmpOp.Eq (Value.int _ _) (Value.int _ _)) _ _ _); refine held_out ?_) | (k_unfold; (try dsimp only)) | (k_end; wrow_close) | walk1 | (dsimp only; walk1) | (leave1; try dsimp only) | fail "no step")
      refine held (int_eq_self ?_)
      repeat' (first | ((with_reducible show wpAny _ _ (subscriptTail _ _ (Value.ref _) (Value.int _ _)) _ _ _); refine held_out ?_) | ((with_reducible show wpAny _ _ (getItem (Value.ref _) (Value.int _ _)) _ _ _); refine held_out ?_) | ((with_reducible show wpAny _ _ (setItem (Value.ref _) (Value.int _ _) _) _ _ _); refine held_out ?_) | ((with_reducible show wpAny _ _ (call (Value.ref _) _) _ _ _); refine hold_call ?_) | ((with_reducible show wpAny _ _ (call (Value.builtin "list.append") _) _ _ _); refine held_out ?_) | ((with_reducible show wpAny _ _ (compareOp CmpOp.Eq (Value.ref _) (Value.ref _)) _ _ _); refine held_out ?_) | ((with_reducible show wpAny _ _ (compareOp CmpOp.Eq (Value.int _ _) (Value.int _ _)) _ _ _); refine held_out ?_) | (k_unfold; (try dsimp only)) | (k_end; wrow_close) | walk1 | (dsimp only; walk1) | (leave1; try dsimp only) | fail "no step")
      refine held (tell_all b₀ ok' len100 len 0 (by first | exact len0 | exact len_up len) (by first | exact len0 | exact len_up len) rfl (fun b o q => F₆.keep b o (Bw₂.stays b o q)) (pushX Bw₂ F₆ rfl rfl).frames rfl ?_ ?_ hN₆ hO₆ ?_ (fun h₇ tk₇ t₇ kp7 fr7 lt7 => ?_))
      · exact law_d2 len10
      · exact law_u2 len10
      · simpa only [List.length_nil, Nat.zero_add] using hes
      have F₇ := Fr.on F₆ kp7
      have N₇ := news_nil F₇
      have l7 : LogIs h₇ lg (told nd len 0) := l6.seq fun b o _ _ q _ => kp7 b o q
      have evs := told_evs (nd := nd) (fun i hi => (hok i hi).place) len 0 (by first | exact len0 | exact len_up len) (by first | exact len0 | exact len_up len)
      clear N₆
      change wpAny _ _ _ _ _ _
      (try k_fold)
      repeat' (first | ((with_reducible show wpAny _ _ (subscriptTail _ _ (Value.ref _) (Value.int _ _)) _ _ _); refine held_out ?_) | ((with_reducible show wpAny _ _ (getItem (Value.ref _) (Value.int _ _)) _ _ _); refine held_out ?_) | ((with_reducible show wpAny _ _ (setItem (Value.ref _) (Value.int _ _) _) _ _ _); refine held_out ?_) | ((with_reducible show wpAny _ _ (call (Value.ref _) _) _ _ _); refine hold_call ?_) | ((with_reducible show wpAny _ _ (call (Value.builtin "list.append") _) _ _ _); refine held_out ?_) | ((with_reducible show wpAny _ _ (compareOp CmpOp.Eq (Value.ref _) (Value.ref _)) _ _ _); refine held_out ?_) | ((with_reducible show wpAny _ _ (compareOp CmpOp.Eq (Value.int _ _) (Value.int _ _)) _ _ _); refine held_out ?_) | (k_unfold; (try dsimp only)) | (k_end; wrow_close) | walk1 | (dsimp only; walk1) | (leave1; try dsimp only) | fail "no step")
      refine held (logs_eq l7 lt7 evs ?_ ?_)
      · dsimp only [Around.deeper]
        decide
      repeat (k_unfold; (try dsimp only))
      obtain ⟨c1, c2, c3, c4, c5, tq⟩ := t6
      refine ⟨⟨.inl ⟨_, .bool true, [], rfl, raisesW_false ?_, .bool true, ?_, unshared_nil⟩, fun b o q => F₇.keep b o (Bw₂.stays b o q), rfl, ?_⟩, ⟨_, kp7 _ _ tq⟩, trivial⟩
      · wrow_none_raised
      · wrow_post
      · assumption)
end
end
end Mine
theorem PySem.Challenge.cw_kl0226_01_holds : PySem.Challenge.rw_kl0226_01.Holds := by
  exact Mine.law_holds
