import Derived.Test.YbulkdogoWalks
namespace Go.Proofs.Ybulkdogo.lawS5760AWhole
open Go.RowKit

/-! ### ahead -/
/-- 'toward' at this receiver answers rt. -/
def HTow (p n cap : Nat) (x : Addr) (key u zu : Int) (rt : Bool) : Prop :=
  ∀ w, w.cell? ⟨p, 1, none⟩ = some (.slice (some x) n cap) → w.cell? ⟨p, 3, none⟩ = some (.int .u64 key) → w.cell? ⟨p, 4, none⟩ = some (.int .i32 u) → w.cell? (x.add u.toNat) = some (.int .u64 zu) →
    Calls Yba.prog 9 #[.pointer (some ⟨p, 0, none⟩)] w fun e w' => e = .returned (.bool rt) ∧ ∃ m, w' = w.drewN m
/-- 'near' at these captured variables answers c and logs the call. -/
def HNear (L R Q : Nat) (u lv rv qv c : Int) (rt : Bool) : Prop :=
  ∀ w, w.cell? ⟨L, 0, none⟩ = some (.slice none 0 0) → w.frozen? ⟨L, 0, none⟩ = false → w.cell? ⟨R, 0, none⟩ = some (.int .i32 rv) → w.cell? ⟨Q, 0, none⟩ = some (.int .i32 qv) → L < w.heap.size → R < w.heap.size → Q < w.heap.size →
    Calls Yba.prog 6 #[.int .i32 u, .int .i64 lv, .bool rt, .pointer (some ⟨L, 0, none⟩), .pointer (some ⟨R, 0, none⟩), .pointer (some ⟨Q, 0, none⟩)] w fun e w' => e = .returned (.int .i32 c) ∧ Logged L u lv rt w w'

set_option maxHeartbeats 1000000 in
set_option maxRecDepth 100000 in
theorem ahead_none (p L R Q n cap : Nat) (x : Addr) (key u zu lv rv qv : Int) (rt : Bool) (w : World)
    (hp1 : w.cell? ⟨p, 1, none⟩ = some (.slice (some x) n cap)) (hp2 : w.cell? ⟨p, 2, none⟩ = some (.func (.func 6) #[] #[.pointer (some ⟨L, 0, none⟩), .pointer (some ⟨R, 0, none⟩), .pointer (some ⟨Q, 0, none⟩)]))
    (hp3 : w.cell? ⟨p, 3, none⟩ = some (.int .u64 key)) (hp4 : w.cell? ⟨p, 4, none⟩ = some (.int .i32 u)) (hp5 : w.cell? ⟨p, 5, none⟩ = some (.int .i64 lv))
    (hc : w.cell? (x.add u.toNat) = some (.int .u64 zu))
    (hL : w.cell? ⟨L, 0, none⟩ = some (.slice none 0 0)) (hLf : w.frozen? ⟨L, 0, none⟩ = false) (hR : w.cell? ⟨R, 0, none⟩ = some (.int .i32 rv)) (hQ : w.cell? ⟨Q, 0, none⟩ = some (.int .i32 qv))
    (l1 : L < w.heap.size) (r1 : R < w.heap.size) (q1 : Q < w.heap.size) (hpL : p ≠ L) (hp0 : p < w.heap.size)
    (HT : HTow p n cap x key u zu rt) (HN : HNear L R Q u lv rv qv (-1) rt)
 :
    Calls Yba.prog 7 #[.pointer (some ⟨p, 0, none⟩)] w fun e w' => e = .returned (.int .i32 (-1)) ∧ ∃ m, Logged L u lv rt (w.drewN m) w' := by
  go_enter Yba.func7, Yba.ntmps7
  go_wp2_with (go_at_call 9; refine (HT _ (by assumption) (by assumption) (by assumption) (by assumption)).mono ?_; rintro e w' ⟨rfl, m, rfl⟩)
  go_region_held3 (fun w' => w'.cell? ⟨p, 2, none⟩ = some (.func (.func 6) #[] #[.pointer (some ⟨L, 0, none⟩), .pointer (some ⟨R, 0, none⟩), .pointer (some ⟨Q, 0, none⟩)]) ∧ w'.cell? ⟨p, 4, none⟩ = some (.int .i32 u) ∧ w'.cell? ⟨p, 5, none⟩ = some (.int .i64 lv)) (go_keep)
    (first | (go_at_call 6; refine (HN _ (by simpa using hL) (by simpa using hLf) (by simpa using hR) (by simpa using hQ) (by simpa using l1) (by simpa using r1) (by simpa using q1)).mono ?_; rintro e w1 ⟨rfl, hlog⟩; have k1 := hlog.cell (p := ⟨p, 1, none⟩) (by simpa using hp0) hpL (by simpa using hp1); have k2 := hlog.cell (p := ⟨p, 2, none⟩) (by simpa using hp0) hpL (by simpa using hp2); have k3 := hlog.cell (p := ⟨p, 3, none⟩) (by simpa using hp0) hpL (by simpa using hp3); have k4 := hlog.cell (p := ⟨p, 4, none⟩) (by simpa using hp0) hpL (by simpa using hp4); have k5 := hlog.cell (p := ⟨p, 5, none⟩) (by simpa using hp0) hpL (by simpa using hp5)))
  clear hp1 hp2 hp3 hp4 hp5 hc hL hLf hR hQ
  go_wp2
  go_quiet (fail)
  go_wp2
  go_ret
  exact ⟨rfl, _, hlog.drewN _⟩

set_option maxHeartbeats 1000000 in
set_option maxRecDepth 100000 in
theorem ahead_right_no (p L R Q n cap : Nat) (x : Addr) (key u zu lv rv qv c : Int) (zc : Int) (w : World)
    (hp1 : w.cell? ⟨p, 1, none⟩ = some (.slice (some x) n cap)) (hp2 : w.cell? ⟨p, 2, none⟩ = some (.func (.func 6) #[] #[.pointer (some ⟨L, 0, none⟩), .pointer (some ⟨R, 0, none⟩), .pointer (some ⟨Q, 0, none⟩)]))
    (hp3 : w.cell? ⟨p, 3, none⟩ = some (.int .u64 key)) (hp4 : w.cell? ⟨p, 4, none⟩ = some (.int .i32 u)) (hp5 : w.cell? ⟨p, 5, none⟩ = some (.int .i64 lv))
    (hc : w.cell? (x.add u.toNat) = some (.int .u64 zu))
    (hL : w.cell? ⟨L, 0, none⟩ = some (.slice none 0 0)) (hLf : w.frozen? ⟨L, 0, none⟩ = false) (hR : w.cell? ⟨R, 0, none⟩ = some (.int .i32 rv)) (hQ : w.cell? ⟨Q, 0, none⟩ = some (.int .i32 qv))
    (l1 : L < w.heap.size) (r1 : R < w.heap.size) (q1 : Q < w.heap.size) (hpL : p ≠ L) (hp0 : p < w.heap.size)
    (HT : HTow p n cap x key u zu true) (HN : HNear L R Q u lv rv qv c true)
    (c0 : 0 ≤ c) (c1 : c < n) (hcc : w.cell? (x.add c.toNat) = some (.int .u64 zc)) (hx0 : x.block < w.heap.size) (hxL : x.block ≠ L) (HXB : Hid (∀ j, (x.add j).block = x.block)) (hk : key < zc) :
    Calls Yba.prog 7 #[.pointer (some ⟨p, 0, none⟩)] w fun e w' => e = .returned (.int .i32 (-1)) ∧ ∃ m, Logged L u lv true (w.drewN m) w' := by
  have hne : (c == -1) = false := beq_eq_false_iff_ne.2 (by omega)
  go_enter Yba.func7, Yba.ntmps7
  go_wp2_with (go_at_call 9; refine (HT _ (by assumption) (by assumption) (by assumption) (by assumption)).mono ?_; rintro e w' ⟨rfl, m, rfl⟩)
  go_region_held3 (fun w' => w'.cell? ⟨p, 2, none⟩ = some (.func (.func 6) #[] #[.pointer (some ⟨L, 0, none⟩), .pointer (some ⟨R, 0, none⟩), .pointer (some ⟨Q, 0, none⟩)]) ∧ w'.cell? ⟨p, 4, none⟩ = some (.int .i32 u) ∧ w'.cell? ⟨p, 5, none⟩ = some (.int .i64 lv)) (go_keep)
    (first | (go_at_call 6; refine (HN _ (by simpa using hL) (by simpa using hLf) (by simpa using hR) (by simpa using hQ) (by simpa using l1) (by simpa using r1) (by simpa using q1)).mono ?_; rintro e w1 ⟨rfl, hlog⟩; have k1 := hlog.cell (p := ⟨p, 1, none⟩) (by simpa using hp0) hpL (by simpa using hp1); have k2 := hlog.cell (p := ⟨p, 2, none⟩) (by simpa using hp0) hpL (by simpa using hp2); have k3 := hlog.cell (p := ⟨p, 3, none⟩) (by simpa using hp0) hpL (by simpa using hp3); have k4 := hlog.cell (p := ⟨p, 4, none⟩) (by simpa using hp0) hpL (by simpa using hp4); have k5 := hlog.cell (p := ⟨p, 5, none⟩) (by simpa using hp0) hpL (by simpa using hp5); have k6 := hlog.cell (p := x.add c.toNat) (by rw [HXB.out]; simpa using hx0) (by rw [HXB.out]; exact hxL) (by simpa using hcc)))
  clear hp1 hp2 hp3 hp4 hp5 hc hL hLf hR hQ
  go_wp2
  go_quiet (fail)
  go_wp2
  go_ret
  exact ⟨rfl, _, hlog.drewN _⟩

set_option maxHeartbeats 1000000 in
set_option maxRecDepth 100000 in
theorem ahead_right (p L R Q n cap : Nat) (x : Addr) (key u zu lv rv qv c : Int) (zc : Int) (w : World)
    (hp1 : w.cell? ⟨p, 1, none⟩ = some (.slice (some x) n cap)) (hp2 : w.cell? ⟨p, 2, none⟩ = some (.func (.func 6) #[] #[.pointer (some ⟨L, 0, none⟩), .pointer (some ⟨R, 0, none⟩), .pointer (some ⟨Q, 0, none⟩)]))
    (hp3 : w.cell? ⟨p, 3, none⟩ = some (.int .u64 key)) (hp4 : w.cell? ⟨p, 4, none⟩ = some (.int .i32 u)) (hp5 : w.cell? ⟨p, 5, none⟩ = some (.int .i64 lv))
    (hc : w.cell? (x.add u.toNat) = some (.int .u64 zu))
    (hL : w.cell? ⟨L, 0, none⟩ = some (.slice none 0 0)) (hLf : w.frozen? ⟨L, 0, none⟩ = false) (hR : w.cell? ⟨R, 0, none⟩ = some (.int .i32 rv)) (hQ : w.cell? ⟨Q, 0, none⟩ = some (.int .i32 qv))
    (l1 : L < w.heap.size) (r1 : R < w.heap.size) (q1 : Q < w.heap.size) (hpL : p ≠ L) (hp0 : p < w.heap.size)
    (HT : HTow p n cap x key u zu true) (HN : HNear L R Q u lv rv qv c true)
    (c0 : 0 ≤ c) (c1 : c < n) (hcc : w.cell? (x.add c.toNat) = some (.int .u64 zc)) (hx0 : x.block < w.heap.size) (hxL : x.block ≠ L) (HXB : Hid (∀ j, (x.add j).block = x.block)) (hk : zc ≤ key) :
    Calls Yba.prog 7 #[.pointer (some ⟨p, 0, none⟩)] w fun e w' => e = .returned (.int .i32 c) ∧ ∃ m, Logged L u lv true (w.drewN m) w' := by
  have hne : (c == -1) = false := beq_eq_false_iff_ne.2 (by omega)
  have hd : decide (key < zc) = false := by simpa using hk
  go_enter Yba.func7, Yba.ntmps7
  go_wp2_with (go_at_call 9; refine (HT _ (by assumption) (by assumption) (by assumption) (by assumption)).mono ?_; rintro e w' ⟨rfl, m, rfl⟩)
  go_region_held3 (fun w' => w'.cell? ⟨p, 2, none⟩ = some (.func (.func 6) #[] #[.pointer (some ⟨L, 0, none⟩), .pointer (some ⟨R, 0, none⟩), .pointer (some ⟨Q, 0, none⟩)]) ∧ w'.cell? ⟨p, 4, none⟩ = some (.int .i32 u) ∧ w'.cell? ⟨p, 5, none⟩ = some (.int .i64 lv)) (go_keep)
    (first | (go_at_call 6; refine (HN _ (by simpa using hL) (by simpa using hLf) (by simpa using hR) (by simpa using hQ) (by simpa using l1) (by simpa using r1) (by simpa using q1)).mono ?_; rintro e w1 ⟨rfl, hlog⟩; have k1 := hlog.cell (p := ⟨p, 1, none⟩) (by simpa using hp0) hpL (by simpa using hp1); have k2 := hlog.cell (p := ⟨p, 2, none⟩) (by simpa using hp0) hpL (by simpa using hp2); have k3 := hlog.cell (p := ⟨p, 3, none⟩) (by simpa using hp0) hpL (by simpa using hp3); have k4 := hlog.cell (p := ⟨p, 4, none⟩) (by simpa using hp0) hpL (by simpa using hp4); have k5 := hlog.cell (p := ⟨p, 5, none⟩) (by simpa using hp0) hpL (by simpa using hp5); have k6 := hlog.cell (p := x.add c.toNat) (by rw [HXB.out]; simpa using hx0) (by rw [HXB.out]; exact hxL) (by simpa using hcc)))
  clear hp1 hp2 hp3 hp4 hp5 hc hL hLf hR hQ
  go_wp2
  go_quiet (fail)
  go_wp2
  go_ret
  exact ⟨rfl, _, hlog.drewN _⟩

set_option maxHeartbeats 1000000 in
set_option maxRecDepth 100000 in
theorem ahead_left_no (p L R Q n cap : Nat) (x : Addr) (key u zu lv rv qv c : Int) (zc : Int) (w : World)
    (hp1 : w.cell? ⟨p, 1, none⟩ = some (.slice (some x) n cap)) (hp2 : w.cell? ⟨p, 2, none⟩ = some (.func (.func 6) #[] #[.pointer (some ⟨L, 0, none⟩), .pointer (some ⟨R, 0, none⟩), .pointer (some ⟨Q, 0, none⟩)]))
    (hp3 : w.cell? ⟨p, 3, none⟩ = some (.int .u64 key)) (hp4 : w.cell? ⟨p, 4, none⟩ = some (.int .i32 u)) (hp5 : w.cell? ⟨p, 5, none⟩ = some (.int .i64 lv))
    (hc : w.cell? (x.add u.toNat) = some (.int .u64 zu))
    (hL : w.cell? ⟨L, 0, none⟩ = some (.slice none 0 0)) (hLf : w.frozen? ⟨L, 0, none⟩ = false) (hR : w.cell? ⟨R, 0, none⟩ = some (.int .i32 rv)) (hQ : w.cell? ⟨Q, 0, none⟩ = some (.int .i32 qv))
    (l1 : L < w.heap.size) (r1 : R < w.heap.size) (q1 : Q < w.heap.size) (hpL : p ≠ L) (hp0 : p < w.heap.size)
    (HT : HTow p n cap x key u zu false) (HN : HNear L R Q u lv rv qv c false)
    (c0 : 0 ≤ c) (c1 : c < n) (hcc : w.cell? (x.add c.toNat) = some (.int .u64 zc)) (hx0 : x.block < w.heap.size) (hxL : x.block ≠ L) (HXB : Hid (∀ j, (x.add j).block = x.block)) (hk : zc < key) :
    Calls Yba.prog 7 #[.pointer (some ⟨p, 0, none⟩)] w fun e w' => e = .returned (.int .i32 (-1)) ∧ ∃ m, Logged L u lv false (w.drewN m) w' := by
  have hne : (c == -1) = false := beq_eq_false_iff_ne.2 (by omega)
  go_enter Yba.func7, Yba.ntmps7
  go_wp2_with (go_at_call 9; refine (HT _ (by assumption) (by assumption) (by assumption) (by assumption)).mono ?_; rintro e w' ⟨rfl, m, rfl⟩)
  go_region_held3 (fun w' => w'.cell? ⟨p, 2, none⟩ = some (.func (.func 6) #[] #[.pointer (some ⟨L, 0, none⟩), .pointer (some ⟨R, 0, none⟩), .pointer (some ⟨Q, 0, none⟩)]) ∧ w'.cell? ⟨p, 4, none⟩ = some (.int .i32 u) ∧ w'.cell? ⟨p, 5, none⟩ = some (.int .i64 lv)) (go_keep)
    (first | (go_at_call 6; refine (HN _ (by simpa using hL) (by simpa using hLf) (by simpa using hR) (by simpa using hQ) (by simpa using l1) (by simpa using r1) (by simpa using q1)).mono ?_; rintro e w1 ⟨rfl, hlog⟩; have k1 := hlog.cell (p := ⟨p, 1, none⟩) (by simpa using hp0) hpL (by simpa using hp1); have k2 := hlog.cell (p := ⟨p, 2, none⟩) (by simpa using hp0) hpL (by simpa using hp2); have k3 := hlog.cell (p := ⟨p, 3, none⟩) (by simpa using hp0) hpL (by simpa using hp3); have k4 := hlog.cell (p := ⟨p, 4, none⟩) (by simpa using hp0) hpL (by simpa using hp4); have k5 := hlog.cell (p := ⟨p, 5, none⟩) (by simpa using hp0) hpL (by simpa using hp5); have k6 := hlog.cell (p := x.add c.toNat) (by rw [HXB.out]; simpa using hx0) (by rw [HXB.out]; exact hxL) (by simpa using hcc)))
  clear hp1 hp2 hp3 hp4 hp5 hc hL hLf hR hQ
  go_wp2
  go_quiet (fail)
  go_wp2
  go_ret
  exact ⟨rfl, _, hlog.drewN _⟩

set_option maxHeartbeats 1000000 in
set_option maxRecDepth 100000 in
theorem ahead_left (p L R Q n cap : Nat) (x : Addr) (key u zu lv rv qv c : Int) (zc : Int) (w : World)
    (hp1 : w.cell? ⟨p, 1, none⟩ = some (.slice (some x) n cap)) (hp2 : w.cell? ⟨p, 2, none⟩ = some (.func (.func 6) #[] #[.pointer (some ⟨L, 0, none⟩), .pointer (some ⟨R, 0, none⟩), .pointer (some ⟨Q, 0, none⟩)]))
    (hp3 : w.cell? ⟨p, 3, none⟩ = some (.int .u64 key)) (hp4 : w.cell? ⟨p, 4, none⟩ = some (.int .i32 u)) (hp5 : w.cell? ⟨p, 5, none⟩ = some (.int .i64 lv))
    (hc : w.cell? (x.add u.toNat) = some (.int .u64 zu))
    (hL : w.cell? ⟨L, 0, none⟩ = some (.slice none 0 0)) (hLf : w.frozen? ⟨L, 0, none⟩ = false) (hR : w.cell? ⟨R, 0, none⟩ = some (.int .i32 rv)) (hQ : w.cell? ⟨Q, 0, none⟩ = some (.int .i32 qv))
    (l1 : L < w.heap.size) (r1 : R < w.heap.size) (q1 : Q < w.heap.size) (hpL : p ≠ L) (hp0 : p < w.heap.size)
    (HT : HTow p n cap x key u zu false) (HN : HNear L R Q u lv rv qv c false)
    (c0 : 0 ≤ c) (c1 : c < n) (hcc : w.cell? (x.add c.toNat) = some (.int .u64 zc)) (hx0 : x.block < w.heap.size) (hxL : x.block ≠ L) (HXB : Hid (∀ j, (x.add j).block = x.block)) (hk : key ≤ zc) :
    Calls Yba.prog 7 #[.pointer (some ⟨p, 0, none⟩)] w fun e w' => e = .returned (.int .i32 c) ∧ ∃ m, Logged L u lv false (w.drewN m) w' := by
  have hne : (c == -1) = false := beq_eq_false_iff_ne.2 (by omega)
  have hd : decide (zc < key) = false := by simpa using hk
  go_enter Yba.func7, Yba.ntmps7
  go_wp2_with (go_at_call 9; refine (HT _ (by assumption) (by assumption) (by assumption) (by assumption)).mono ?_; rintro e w' ⟨rfl, m, rfl⟩)
  go_region_held3 (fun w' => w'.cell? ⟨p, 2, none⟩ = some (.func (.func 6) #[] #[.pointer (some ⟨L, 0, none⟩), .pointer (some ⟨R, 0, none⟩), .pointer (some ⟨Q, 0, none⟩)]) ∧ w'.cell? ⟨p, 4, none⟩ = some (.int .i32 u) ∧ w'.cell? ⟨p, 5, none⟩ = some (.int .i64 lv)) (go_keep)
    (first | (go_at_call 6; refine (HN _ (by simpa using hL) (by simpa using hLf) (by simpa using hR) (by simpa using hQ) (by simpa using l1) (by simpa using r1) (by simpa using q1)).mono ?_; rintro e w1 ⟨rfl, hlog⟩; have k1 := hlog.cell (p := ⟨p, 1, none⟩) (by simpa using hp0) hpL (by simpa using hp1); have k2 := hlog.cell (p := ⟨p, 2, none⟩) (by simpa using hp0) hpL (by simpa using hp2); have k3 := hlog.cell (p := ⟨p, 3, none⟩) (by simpa using hp0) hpL (by simpa using hp3); have k4 := hlog.cell (p := ⟨p, 4, none⟩) (by simpa using hp0) hpL (by simpa using hp4); have k5 := hlog.cell (p := ⟨p, 5, none⟩) (by simpa using hp0) hpL (by simpa using hp5); have k6 := hlog.cell (p := x.add c.toNat) (by rw [HXB.out]; simpa using hx0) (by rw [HXB.out]; exact hxL) (by simpa using hcc)))
  clear hp1 hp2 hp3 hp4 hp5 hc hL hLf hR hQ
  go_wp2
  go_quiet (fail)
  go_wp2
  go_ret
  exact ⟨rfl, _, hlog.drewN _⟩
end Go.Proofs.Ybulkdogo.lawS5760AWhole
