import Derived.Test.YbulkdogoAhead
import Derived.Test.YbulkdogoLib
namespace Go.Proofs.Ybulkdogo.lawS5760AWhole
open Go.RowKit

/-! ### what the law's own parts come to -/
def pickV (raw : Int) (n : Nat) : Int := if raw < 0 then -1 else raw % n
theorem pickV_or (raw : Int) (n : Nat) (h : 1 ≤ n) : pickV raw n = -1 ∨ (0 ≤ pickV raw n ∧ pickV raw n < n) := by
  unfold pickV
  split
  · exact .inl rfl
  · have := Int.emod_lt_of_pos raw (show (0 : Int) < n by omega)
    have := Int.emod_nonneg raw (show (n : Int) ≠ 0 by omega)
    exact .inr ⟨by omega, by omega⟩
theorem pick_any (raw : Int) (n : Nat) (w : World) (h : raw ≤ 9223372036854775807) (h1 : 1 ≤ n) (h2 : n ≤ 1048576) : Calls Yba.prog 4 #[.int .i64 raw, .int .i64 n] w fun e w' => e = .returned (.int .i32 (pickV raw n)) ∧ w = w' := by
  unfold pickV
  by_cases hr : raw < 0
  · rw [if_pos hr]; exact (pick_neg raw n w hr).mono fun e w' ⟨a, b⟩ => ⟨a, b.symm⟩
  · rw [if_neg hr]; exact (pick_pos raw n w (by omega) h h1 h2).mono fun e w' ⟨a, b⟩ => ⟨a, b.symm⟩

def resV (rt : Bool) (c key zc : Int) : Int := if c = -1 then -1 else if rt then (if key < zc then -1 else c) else (if zc < key then -1 else c)

theorem ahead_all (p L R Q n cap : Nat) (x : Addr) (key u zu lv rv qv c zc : Int) (rt : Bool) (w : World)
    (hp1 : w.cell? ⟨p, 1, none⟩ = some (.slice (some x) n cap)) (hp2 : w.cell? ⟨p, 2, none⟩ = some (.func (.func 6) #[] #[.pointer (some ⟨L, 0, none⟩), .pointer (some ⟨R, 0, none⟩), .pointer (some ⟨Q, 0, none⟩)]))
    (hp3 : w.cell? ⟨p, 3, none⟩ = some (.int .u64 key)) (hp4 : w.cell? ⟨p, 4, none⟩ = some (.int .i32 u)) (hp5 : w.cell? ⟨p, 5, none⟩ = some (.int .i64 lv))
    (hu0 : 0 ≤ u) (hu1 : u < n) (hc : w.cell? (x.add u.toNat) = some (.int .u64 zu)) (hrt : decide (zu ≤ key) = rt)
    (hL : w.cell? ⟨L, 0, none⟩ = some (.slice none 0 0)) (hLf : w.frozen? ⟨L, 0, none⟩ = false) (hR : w.cell? ⟨R, 0, none⟩ = some (.int .i32 rv)) (hQ : w.cell? ⟨Q, 0, none⟩ = some (.int .i32 qv))
    (l1 : L < w.heap.size) (r1 : R < w.heap.size) (q1 : Q < w.heap.size) (hRL : R ≠ L) (hQL : Q ≠ L) (hpL : p ≠ L) (hp0 : p < w.heap.size) (hx0 : x.block < w.heap.size) (hxL : x.block ≠ L) (hres : c = if rt then rv else qv)
    (hcase : c = -1 ∨ (0 ≤ c ∧ c < n)) (hcc : c ≠ -1 → w.cell? (x.add c.toNat) = some (.int .u64 zc)) :
    Calls Yba.prog 7 #[.pointer (some ⟨p, 0, none⟩)] w fun e w' => e = .returned (.int .i32 (resV rt c key zc)) ∧ ∃ m, Logged L u lv rt (w.drewN m) w' := by
  have HXB : Hid (∀ j, (x.add j).block = x.block) := fun j => by unfold Addr.add; split <;> rfl
  have HT : HTow p n cap x key u zu rt := fun w a1 a2 a3 a4 => hrt ▸ toward_any p x n cap key u zu w a1 a2 a3 hu0 hu1 a4
  have HN : HNear L R Q u lv rv qv c rt := fun w a1 a2 a3 a4 a5 a6 a7 => near_any u lv rv qv c rt L R Q w a1 a2 a3 a4 a5 a6 a7 hRL hQL hres
  clear hres
  by_cases hn : c = -1
  · subst hn
    have e : resV rt (-1) key zc = -1 := by simp [resV]
    rw [e]
    exact ahead_none p L R Q n cap x key u zu lv rv qv rt w hp1 hp2 hp3 hp4 hp5 hc hL hLf hR hQ l1 r1 q1 hpL hp0 HT HN
  · obtain ⟨c0, c1⟩ : 0 ≤ c ∧ c < n := by omega
    cases rt with
    | true =>
      by_cases hk : key < zc
      · have e : resV true c key zc = -1 := by simp [resV, hk]
        rw [e]
        exact ahead_right_no p L R Q n cap x key u zu lv rv qv c zc w hp1 hp2 hp3 hp4 hp5 hc hL hLf hR hQ l1 r1 q1 hpL hp0 HT HN c0 c1 (hcc hn) hx0 hxL HXB hk
      · have e : resV true c key zc = c := by simp [resV, hk, hn]
        rw [e]
        exact ahead_right p L R Q n cap x key u zu lv rv qv c zc w hp1 hp2 hp3 hp4 hp5 hc hL hLf hR hQ l1 r1 q1 hpL hp0 HT HN c0 c1 (hcc hn) hx0 hxL HXB (by omega)
    | false =>
      by_cases hk : zc < key
      · have e : resV false c key zc = -1 := by simp [resV, hk]
        rw [e]
        exact ahead_left_no p L R Q n cap x key u zu lv rv qv c zc w hp1 hp2 hp3 hp4 hp5 hc hL hLf hR hQ l1 r1 q1 hpL hp0 HT HN c0 c1 (hcc hn) hx0 hxL HXB hk
      · have e : resV false c key zc = c := by simp [resV, hk, hn]
        rw [e]
        exact ahead_left p L R Q n cap x key u zu lv rv qv c zc w hp1 hp2 hp3 hp4 hp5 hc hL hLf hR hQ l1 r1 q1 hpL hp0 HT HN c0 c1 (hcc hn) hx0 hxL HXB (by omega)

/-- Behind Clone: what was there, and the two boxes. -/
theorem after_clone {w w1 : World} {x : Addr} {zs : List Int} {l r : Value} (hc : ∀ i, i < zs.length → w.cell? (x.add i) = some (.int .u64 (zs.getD i 0))) (hx : x.block < w.heap.size)
    (hb : Below ((w.alloc (.cells #[l] 21)).alloc (.cells #[r] 21)).heap.size ((w.alloc (.cells #[l] 21)).alloc (.cells #[r] 21)) w1) :
    w1.cell? ⟨w.heap.size, 0, none⟩ = some l ∧ w1.cell? ⟨w.heap.size + 1, 0, none⟩ = some r ∧ (∀ i, i < zs.length → w1.cell? (x.add i) = some (.int .u64 (zs.getD i 0))) ∧ w.heap.size + 2 ≤ w1.heap.size ∧ Below w.heap.size w w1 := by
  have hs := hb.size
  simp at hs
  have hxb : ∀ j, (x.add j).block = x.block := fun j => by unfold Addr.add; split <;> rfl
  refine ⟨?_, ?_, fun i hi => ?_, by omega, (((Below.refl _ w).alloc (Nat.le_refl _) _).alloc (by simp) _).trans (hb.mono (by simp; omega))⟩
  · rw [hb.cell (by simp; omega)]; go_simp
  · rw [hb.cell (by simp)]; go_simp
  · rw [hb.cell (by rw [hxb]; simp; omega), World.cell?_alloc_lt _ _ _ (by rw [hxb]; simp; omega), World.cell?_alloc_lt _ _ _ (by rw [hxb]; omega), hc i hi]

/-- What the law finds behind 'ahead'. -/
structure Aft (n cap L g q r : Nat) (x : Addr) (zs : List Int) (key uu level rv qv : Int) (rt : Bool) (f : Value) (w1 w3 : World) : Prop where
  hq : w3.cell? ⟨q, 0, none⟩ = some (.int .i32 qv)
  hr : w3.cell? ⟨r, 0, none⟩ = some (.int .i32 rv)
  hx : ∀ i, i < zs.length → w3.cell? (x.add i) = some (.int .u64 (zs.getD i 0))
  hs : ∀ i, i < n → w3.cell? ⟨g, i, none⟩ = some (.int .u64 (zs.getD i 0))
  p0 : w3.cell? ⟨L + 1, 0, none⟩ = some (.pointer none)
  p1 : w3.cell? ⟨L + 1, 1, none⟩ = some (.slice (some x) n cap)
  p3 : w3.cell? ⟨L + 1, 3, none⟩ = some (.int .u64 key)
  p4 : w3.cell? ⟨L + 1, 4, none⟩ = some (.int .i32 uu)
  p5 : w3.cell? ⟨L + 1, 5, none⟩ = some (.int .i64 level)
  p6 : w3.cell? ⟨L + 1, 6, none⟩ = some (.bool false)
  p7 : w3.cell? ⟨L + 1, 7, none⟩ = some (.slice none 0 0)
  log : ∃ gl cl, w3.cell? ⟨L, 0, none⟩ = some (.slice (some ⟨gl, 0, none⟩) 1 cl) ∧ w3.cell? ⟨gl, 0, none⟩ = some (.int .i32 uu) ∧ w3.cell? ⟨gl, 1, none⟩ = some (.int .i64 level) ∧ w3.cell? ⟨gl, 2, none⟩ = some (.bool rt)
  below : Below L w1 w3

theorem ahead_here (n cap g q r : Nat) (x : Addr) (zs : List Int) (key uu level rv qv : Int) (w1 : World) (hl : n ≤ zs.length)
    (hq : w1.cell? ⟨q, 0, none⟩ = some (.int .i32 qv)) (hr : w1.cell? ⟨r, 0, none⟩ = some (.int .i32 rv)) (hx : ∀ i, i < zs.length → w1.cell? (x.add i) = some (.int .u64 (zs.getD i 0))) (hs : ∀ i, i < n → w1.cell? ⟨g, i, none⟩ = some (.int .u64 (zs.getD i 0)))
    (q1 : q < w1.heap.size) (r1 : r < w1.heap.size) (g1 : g < w1.heap.size) (x1 : x.block < w1.heap.size) (u0 : 0 ≤ uu) (u1 : uu < n) (hrv : rv = -1 ∨ (0 ≤ rv ∧ rv < n)) (hqv : qv = -1 ∨ (0 ≤ qv ∧ qv < n)) (rt : Bool) (hrt : decide (zs.getD uu.toNat 0 ≤ key) = rt) (c : Int) (hcv : c = if rt then rv else qv) :
    Calls Yba.prog 7 #[.pointer (some ⟨w1.heap.size + 1, 0, none⟩)]
      ((w1.alloc (.cells #[.slice none 0 0] 27)).alloc (.cells #[.pointer none, .slice (some x) n cap, .func (.func 6) #[] #[.pointer (some ⟨w1.heap.size, 0, none⟩), .pointer (some ⟨r, 0, none⟩), .pointer (some ⟨q, 0, none⟩)], .int .u64 key, .int .i32 uu, .int .i64 level, .bool false, .slice none 0 0] 35))
      fun e w3 => e = .returned (.int .i32 (resV rt c key (zs.getD c.toNat 0))) ∧ Aft n cap w1.heap.size g q r x zs key uu level rv qv rt .nilFunc w1 w3 := by
  have hxb : ∀ j, (x.add j).block = x.block := fun j => by unfold Addr.add; split <;> rfl
  obtain ⟨o1, ho1⟩ : ∃ o : Obj, o = .cells #[.slice none 0 0] 27 := ⟨_, rfl⟩
  obtain ⟨o2, ho2⟩ : ∃ o : Obj, o = .cells #[.pointer none, .slice (some x) n cap, .func (.func 6) #[] #[.pointer (some ⟨w1.heap.size, 0, none⟩), .pointer (some ⟨r, 0, none⟩), .pointer (some ⟨q, 0, none⟩)], .int .u64 key, .int .i32 uu, .int .i64 level, .bool false, .slice none 0 0] 35 := ⟨_, rfl⟩
  have old : ∀ p : Addr, p.block < w1.heap.size → ((w1.alloc o1).alloc o2).cell? p = w1.cell? p := fun p hp => by
    rw [World.cell?_alloc_lt _ _ _ (by simp; omega), World.cell?_alloc_lt _ _ _ hp]
  have hsz : ((w1.alloc o1).alloc o2).heap.size = w1.heap.size + 1 + 1 := by simp
  have cL : ((w1.alloc o1).alloc o2).cell? ⟨w1.heap.size, 0, none⟩ = some (.slice none 0 0) := by subst ho1; go_simp
  have fL : ((w1.alloc o1).alloc o2).frozen? ⟨w1.heap.size, 0, none⟩ = false := by subst ho1; subst ho2; go_simp
  have cP : ∀ k v, (#[Value.pointer none, .slice (some x) n cap, .func (.func 6) #[] #[.pointer (some ⟨w1.heap.size, 0, none⟩), .pointer (some ⟨r, 0, none⟩), .pointer (some ⟨q, 0, none⟩)], .int .u64 key, .int .i32 uu, .int .i64 level, .bool false, .slice none 0 0])[k]? = some v → ((w1.alloc o1).alloc o2).cell? ⟨w1.heap.size + 1, k, none⟩ = some v := fun k v hk => by
    rw [ho2, World.cell?_alloc2_new]
    exact hk
  rw [← ho1, ← ho2]
  have hcc : c ≠ -1 → 0 ≤ c ∧ c < n := fun h => by
    cases rt
    · simp at hcv; omega
    · simp at hcv; omega
  refine (ahead_all (w1.heap.size + 1) w1.heap.size r q n cap x key uu (zs.getD uu.toNat 0) level rv qv c (zs.getD c.toNat 0) rt ((w1.alloc o1).alloc o2) (cP 1 _ rfl) (cP 2 _ rfl) (cP 3 _ rfl) (cP 4 _ rfl) (cP 5 _ rfl) u0 u1
    (by rw [old _ (by rw [hxb]; exact x1)]; exact hx _ (by omega)) hrt cL fL (by rw [old _ r1]; exact hr) (by rw [old _ q1]; exact hq) (by omega) (by omega) (by omega) (by omega) (by omega) (by omega) (by omega) (by omega) (by omega) hcv (by cases rt <;> simp at hcv <;> omega)
    (fun h => by rw [old _ (by rw [hxb]; exact x1)]; have := hcc h; exact hx _ (by omega))).mono ?_
  rintro e w3 ⟨rfl, m, hlog⟩
  have hk := hlog
  obtain ⟨gl, cl, g1', g2', g3', g4', g5', g6', kept⟩ := hlog
  have keep : ∀ (p : Addr) (v : Value), p.block < w1.heap.size → w1.cell? p = some v → w3.cell? p = some v := fun p v hp hv => hk.cell (by simp; omega) (by omega) (by rw [World.cell?_drewN, old p hp, hv])
  have keepP : ∀ k v, ((w1.alloc o1).alloc o2).cell? ⟨w1.heap.size + 1, k, none⟩ = some v → w3.cell? ⟨w1.heap.size + 1, k, none⟩ = some v := fun k v hv => hk.cell (by simp) (by simp) (by rw [World.cell?_drewN, hv])
  refine ⟨rfl, keep _ _ q1 hq, keep _ _ r1 hr, fun i hi => keep _ _ (by rw [hxb]; exact x1) (hx i hi), fun i hi => keep _ _ g1 (hs i hi), keepP _ _ (cP 0 _ rfl), keepP _ _ (cP 1 _ rfl), keepP _ _ (cP 3 _ rfl), keepP _ _ (cP 4 _ rfl), keepP _ _ (cP 5 _ rfl), keepP _ _ (cP 6 _ rfl), keepP _ _ (cP 7 _ rfl), ⟨gl, cl, g1', g2', g3', g4'⟩, ?_⟩
  exact (below_drewN (((Below.refl _ w1).alloc (Nat.le_refl _) o1).alloc (by simp) o2) m).trans (kept.below (Nat.le_refl _) (by simp; omega))

set_option maxHeartbeats 2000000 in
set_option maxRecDepth 100000 in
theorem law_main (x : Addr) (n cap : Nat) (zs : List Int) (key u level left right : Int) (w : World) (h1 : 1 ≤ n) (h2 : n ≤ 1048576) (hl : n ≤ zs.length) (hc : ∀ i, i < zs.length → w.cell? (x.add i) = some (.int .u64 (zs.getD i 0))) (hx : x.block < w.heap.size)
    (hu0 : 0 ≤ u) (hu1 : u ≤ 4294967295) (hle : left ≤ 9223372036854775807) (hri : right ≤ 9223372036854775807) :
    Calls Yba.prog 3 #[.slice (some x) n cap, .int .u64 key, .int .u32 u, .int .i64 level, .int .i64 left, .int .i64 right] w fun e w' => e = .returned (.bool true) ∧ Below w.heap.size w w' := by
  have hmf : ∀ (fn : Fn) (first cap : Array Value) (w : World), (Instr.makeFunc fn first cap).run Yba.prog w = .ok (.func fn first cap) w := fun _ _ _ _ => rfl
  have hn0 : ¬ (n : Int) = 0 := by omega
  have hb0 : ((n : Int) == 0) = false := beq_eq_false_iff_ne.2 hn0
  have m0 : 0 ≤ u % (n : Int) := Int.emod_nonneg u hn0
  have m1 : u % (n : Int) < n := Int.emod_lt_of_pos u (by omega)
  have hw : IntKind.i32.wrap (u % (n : Int)) = u % n := by rw [IntKind.wrap_i32]; omega
  have hnil := fun w => run_neq_slice_nil_any (P := Yba.prog) w 33 21 none 0 0 0 0 Yba.underlying33
  have hxb : ∀ j, (x.add j).block = x.block := fun j => by unfold Addr.add; split <;> rfl
  have HC : Hid (∀ w, (∀ i, i < zs.length → w.cell? (x.add i) = some (.int .u64 (zs.getD i 0))) → x.block < w.heap.size → Calls Yba.prog 5 #[.slice (some x) n cap] w fun e w' => ∃ g cap', e = .returned (.slice (some ⟨g, 0, none⟩) n cap') ∧ (∀ i, i < n → w'.cell? ⟨g, i, none⟩ = some (.int .u64 (zs.getD i 0))) ∧ w.heap.size ≤ g ∧ g < w'.heap.size ∧ Below w.heap.size w w') :=
    fun w a b => clone_any x n cap zs w h1 h2 hl a b
  have HIDC : Hid (∀ i, i < zs.length → w.cell? (x.add i) = some (.int .u64 (zs.getD i 0))) := hc
  have HXB : Hid (∀ j, (x.add j).block = x.block) := hxb
  clear hc hxb
  go_enter Yba.func3, Yba.ntmps3
  go_wp2_with (first | (go_at_call 4; refine (pick_any _ n _ (by assumption) h1 h2).mono ?_; rintro e w' ⟨rfl, rfl⟩))
  refine (HC.out _ (fun i hi => ?_) ?_).mono ?_
  · rw [World.cell?_alloc_lt _ _ _ (by rw [HXB.out]; simp; omega), World.cell?_alloc_lt _ _ _ (by rw [HXB.out]; omega), HIDC.out i hi]
  · simp; omega
  rintro e w1 ⟨g, cap', rfl, hsv, hg1, hg2, hb⟩
  obtain ⟨hQ1, hR1, hx1, hs1, hbel⟩ := after_clone HIDC.out hx hb
  have HS : Hid (∀ i, i < n → w1.cell? ⟨g, i, none⟩ = some (.int .u64 (zs.getD i 0))) := hsv
  have HX1 : Hid (∀ i, i < zs.length → w1.cell? (x.add i) = some (.int .u64 (zs.getD i 0))) := hx1
  have HB : Hid (Below w.heap.size w w1) := hbel
  simp at hg1
  clear hsv hx1 hb hbel
  go_wp2_with fail
  obtain ⟨rt, hrt⟩ : ∃ rt, decide (zs.getD (u % (n : Int)).toNat 0 ≤ key) = rt := ⟨_, rfl⟩
  obtain ⟨c, hcv⟩ : ∃ c, c = if rt then pickV right n else pickV left n := ⟨_, rfl⟩
  refine (ahead_here n cap g w.heap.size (w.heap.size + 1) x zs key (u % n) level (pickV right n) (pickV left n) w1 hl hQ1 hR1 HX1.out HS.out (by omega) (by omega) hg2 (by omega) m0 m1 (pickV_or _ _ h1) (pickV_or _ _ h1) rt hrt c hcv).mono ?_
  rintro e w3 ⟨rfl, haft⟩
  obtain ⟨hq3, hr3, hx3, hs3, p0, p1, p3, p4, p5, p6, p7, ⟨gl, cl, lg0, lg1, lg2, lg3⟩, hbel3⟩ := haft
  have hcu := hx3 (u % (n : Int)).toNat (by omega)
  have HE : Hid (∀ w, (∀ i, i < n → w.cell? (x.add i) = some (.int .u64 (zs.getD i 0))) → (∀ i, i < n → w.cell? ((⟨g, 0, none⟩ : Addr).add i) = some (.int .u64 (zs.getD i 0))) → Calls Yba.prog 8 #[.slice (some x) n cap, .slice (some ⟨g, 0, none⟩) n cap'] w fun e w' => e = .returned (.bool true) ∧ ∃ m, w' = w.drewN m) :=
    fun w a b => equal_any x ⟨g, 0, none⟩ n cap cap' zs w h2 a b
  have HX3 : Hid (∀ i, i < n → w3.cell? (x.add i) = some (.int .u64 (zs.getD i 0))) := fun i hi => hx3 i (by omega)
  have HS3 : Hid (∀ i, i < n → w3.cell? ((⟨g, 0, none⟩ : Addr).add i) = some (.int .u64 (zs.getD i 0))) := fun i hi => by
    have hadd : (⟨g, 0, none⟩ : Addr).add i = ⟨g, i, none⟩ := by unfold Addr.add; split <;> simp_all
    rw [hadd]; exact hs3 i hi
  have HB3 : Hid (Below w.heap.size w w3) := HB.out.trans (hbel3.mono (by omega))
  have hor := pickV_or left n h1
  have hor' := pickV_or right n h1
  clear hbel3 hx3 hs3 hQ1 hR1 HX1 HS HC HIDC
  generalize hzu : zs.getD (u % (n : Int)).toNat 0 = zu at *
  generalize pickV left n = lv at *
  generalize pickV right n = rv at *
  cases rt
  · simp only [Bool.false_eq_true, if_false] at hcv
    subst hcv
    have hside : key < zu := by have := of_decide_eq_false hrt; omega
    by_cases hcn : c = -1
    · subst hcn
      have e : resV false (-1) key (zs.getD (-1 : Int).toNat 0) = -1 := by simp [resV]
      rw [e]
      clear e hor hor' hrt hzu
      go_wp2_with (first | (go_at_call 8; refine (HE.out _ HX3.out HS3.out).mono ?_; rintro e w' ⟨rfl, m, rfl⟩))
      go_ret
      exact ⟨rfl, below_drewN HB3.out _⟩
    · have hcb : 0 ≤ c ∧ c < n := by omega
      obtain ⟨c0, c1⟩ := hcb
      have hne : (c != -1) = true := by simpa using hcn
      have hcc := HX3.out c.toNat (by omega)
      generalize zs.getD c.toNat 0 = zc at *
      by_cases hk : zc < key
      · have e : resV false c key zc = -1 := by simp [resV, hk]
        rw [e]
        clear e hor hor' hrt hzu
        go_wp2_with (first | (go_at_call 8; refine (HE.out _ HX3.out HS3.out).mono ?_; rintro e w' ⟨rfl, m, rfl⟩))
        go_ret
        exact ⟨rfl, below_drewN HB3.out _⟩
      · have e : resV false c key zc = c := by simp [resV, hk, hcn]
        have hk' : key ≤ zc := by omega
        rw [e]
        clear e hor hor' hrt hzu hk
        go_wp2_with (first | (go_at_call 8; refine (HE.out _ HX3.out HS3.out).mono ?_; rintro e w' ⟨rfl, m, rfl⟩))
        go_ret
        exact ⟨rfl, below_drewN HB3.out _⟩
  · simp only [if_true] at hcv
    subst hcv
    have hside : zu ≤ key := of_decide_eq_true hrt
    by_cases hcn : c = -1
    · subst hcn
      have e : resV true (-1) key (zs.getD (-1 : Int).toNat 0) = -1 := by simp [resV]
      rw [e]
      clear e hor hor' hrt hzu
      go_wp2_with (first | (go_at_call 8; refine (HE.out _ HX3.out HS3.out).mono ?_; rintro e w' ⟨rfl, m, rfl⟩))
      go_ret
      exact ⟨rfl, below_drewN HB3.out _⟩
    · have hcb : 0 ≤ c ∧ c < n := by omega
      obtain ⟨c0, c1⟩ := hcb
      have hne : (c != -1) = true := by simpa using hcn
      have hcc := HX3.out c.toNat (by omega)
      generalize zs.getD c.toNat 0 = zc at *
      by_cases hk : key < zc
      · have e : resV true c key zc = -1 := by simp [resV, hk]
        rw [e]
        clear e hor hor' hrt hzu
        go_wp2_with (first | (go_at_call 8; refine (HE.out _ HX3.out HS3.out).mono ?_; rintro e w' ⟨rfl, m, rfl⟩))
        go_ret
        exact ⟨rfl, below_drewN HB3.out _⟩
      · have e : resV true c key zc = c := by simp [resV, hk, hcn]
        have hk' : zc ≤ key := by omega
        rw [e]
        clear e hor hor' hrt hzu hk
        go_wp2_with (first | (go_at_call 8; refine (HE.out _ HX3.out HS3.out).mono ?_; rintro e w' ⟨rfl, m, rfl⟩))
        go_ret
        exact ⟨rfl, below_drewN HB3.out _⟩
end Go.Proofs.Ybulkdogo.lawS5760AWhole
