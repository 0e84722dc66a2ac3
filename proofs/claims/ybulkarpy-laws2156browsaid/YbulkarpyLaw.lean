/-
  THE LAW's OWN WALK.
-/
import Derived.Test.YbulkarpyWalks
import Derived.Laws.MakeOwn
import Derived.Laws.OwnMore
import Derived.LaidEqlPtr
import Derived.Lib.Builder
namespace Go.Proofs.Ybulkarpy
open Go.RowKit Go.RwLone

/-- N cells that hold z -/
def fill (z : Value) (N : Nat) : Array Value := madeCells #[z] N
theorem fill_get (z : Value) (N j : Nat) (h : j < N) : (fill z N)[j]? = some z := by
  have e : (fill z N).toList = List.replicate N z := toList_madeCells_one z N
  rw [← Array.getElem?_toList, e]; simp [h]

theorem make_rule {t e : TypeId} {z : Value} {bytes : Nat} (ht : Yba.prog.underlying t = some (.slice e)) (hz : z.cells = #[z]) (hb : bytes ≤ 16)
    (hi : (Yba.prog.info? e).map (fun i => (i.zero, i.size, i.bytes)) = some (some z, 1, bytes)) (N : Nat) (hN : N ≤ 5000) (w : World) :
    (Instr.makeSlice t (.int .i64 N) (.int .i64 N)).run Yba.prog w = .ok (.slice (some ⟨w.heap.size, 0, none⟩) N N) (w.alloc (.cells (fill z N) e)) := by
  obtain ⟨i, h0, h1, h2, h3⟩ := info_parts hi
  have hm : bytes * N ≤ 16 * 5000 := Nat.mul_le_mul hb hN
  have := run_make (P := Yba.prog) w t e i z ht h0 h1 .i64 .i64 N N (by omega) (by omega) (by rw [h3]; omega) (by omega)
  rw [h2, hz, Int.toNat_natCast, Nat.mul_one] at this
  exact this

theorem info2 : (Yba.prog.info? 2).map (fun i => (i.zero, i.size, i.bytes)) = some (some (.int .i64 0), 1, 8) := by kernel_rfl
theorem info2' : Yba.prog.info? 2 = some ((Yba.prog.info? 2).getD default) := by kernel_rfl
theorem info4 : (Yba.prog.info? 4).map (fun i => (i.zero, i.size, i.bytes)) = some (some (.bool false), 1, 1) := by kernel_rfl
theorem info24 : (Yba.prog.info? 24).map (fun i => (i.zero, i.size, i.bytes)) = some (some (.int .u32 0), 1, 4) := by kernel_rfl
theorem info9 : (Yba.prog.info? 9).map (fun i => (i.zero, i.size, i.bytes)) = some (some (.string ⟨#[]⟩), 1, 16) := by kernel_rfl

/-- block V holds N cells, F of them, none frozen -/
def Row (w : World) (V N : Nat) (F : Nat → Value) : Prop := ∀ j, j < N → w.cell? ⟨V, j, none⟩ = some (F j) ∧ w.frozen? ⟨V, j, none⟩ = false

theorem Row.new (w : World) (z : Value) (N : Nat) (t : TypeId) : Row (w.alloc (.cells (fill z N) t)) w.heap.size N (fun _ => z) := by
  intro j hj
  refine ⟨?_, ?_⟩
  · rw [World.cell?_alloc_at _ _ _ _ rfl]; exact fill_get z N j hj
  · exact World.frozen?_alloc_at _ _ _ _ rfl
theorem Row.alloc {w : World} {V N : Nat} {F : Nat → Value} (h : Row w V N F) (o : Obj) : Row (w.alloc o) V N F := by
  intro j hj
  obtain ⟨h1, h2⟩ := h j hj
  have hb := World.block_lt_of_cell? _ _ h1
  exact ⟨by rw [World.cell?_alloc_past _ _ _ hb]; exact h1, by rw [World.frozen?_alloc_past _ _ _ hb]; exact h2⟩
theorem Row.other {w : World} {V N : Nat} {F : Nat → Value} (h : Row w V N F) (a : Addr) (v : Value) (ha : a.block ≠ V) : Row (w.setCell a v) V N F := by
  intro j hj
  obtain ⟨h1, h2⟩ := h j hj
  refine ⟨?_, by simpa using h2⟩
  rw [World.cell?_setCell_other _ a ⟨V, j, none⟩ _ (by intro e; subst e; exact ha rfl)]; exact h1
theorem Row.drewN {w : World} {V N : Nat} {F : Nat → Value} (h : Row w V N F) (m : Nat) : Row (w.drewN m) V N F := by
  intro j hj; simpa using h j hj
theorem Row.store {w : World} {V N : Nat} {F G : Nat → Value} (h : Row w V N F) (k : Nat) (hk : k < N) (v : Value) (hG : ∀ j, j < N → G j = if j = k then v else F j) : Row (w.setCell ⟨V, k, none⟩ v) V N G := by
  intro j hj
  obtain ⟨h1, h2⟩ := h j hj
  refine ⟨?_, by simpa using h2⟩
  rw [hG j hj]
  by_cases e : j = k
  · subst e; rw [if_pos rfl]; exact World.cell?_setCell_same w _ _ h1
  · rw [if_neg e, World.cell?_setCell_other _ ⟨V, k, none⟩ ⟨V, j, none⟩ _ (by intro h; exact e (Addr.mk.inj h).2.1.symm)]; exact h1

theorem ret_bool {a b : Bool} (h : a = b) : Ending.returned (.bool a) = .returned (.bool b) := by rw [h]

/-- what the values' row holds behind k rounds -/
def filled (f : Nat → Int) (k j : Nat) : Value := if j < k then .int .i64 (f j) else .int .i64 0
def flags (g : Nat → Bool) (k j : Nat) : Value := if j < k then .bool (g j) else .bool false

theorem row_filled {w : World} {V N k : Nat} {f : Nat → Int} (h : Row w V N (filled f k)) (hk : k < N) : Row (w.setCell ⟨V, k, none⟩ (.int .i64 (f k))) V N (filled f (k + 1)) := by
  refine h.store k hk _ fun j _ => ?_
  unfold filled
  by_cases e : j = k
  · subst e; rw [if_pos (by omega), if_pos rfl]
  · rw [if_neg e]; by_cases c : j < k
    · rw [if_pos c, if_pos (by omega)]
    · rw [if_neg c, if_neg (by omega)]
theorem row_flags {w : World} {V N k : Nat} {g : Nat → Bool} (h : Row w V N (flags g k)) (hk : k < N) : Row (w.setCell ⟨V, k, none⟩ (.bool (g k))) V N (flags g (k + 1)) := by
  refine h.store k hk _ fun j _ => ?_
  unfold flags
  by_cases e : j = k
  · subst e; rw [if_pos (by omega), if_pos rfl]
  · rw [if_neg e]; by_cases c : j < k
    · rw [if_pos c, if_pos (by omega)]
    · rw [if_neg c, if_neg (by omega)]

/-- the world in which liveRow is called: the last flag is set; the marks, the columns, the chunk, the list of chunks and the table are new -/
def startW (wq : World) (B ll wd N : Nat) : World :=
  ((((((wq.setCell ⟨B + 1, ll, none⟩ (.bool true)).alloc (.cells (fill (.int .u32 0) (ll + 1)) 24)).alloc (.cells (fill (.string ⟨#[]⟩) wd) 9)).alloc
    (.cells #[.slice (some ⟨B, 0, none⟩) N N, .slice (some ⟨B + 1, 0, none⟩) (ll + 1) (ll + 1), .slice (some ⟨B + 1 + 1, 0, none⟩) (ll + 1) (ll + 1)] 31)).alloc
    (.cells #[.pointer (some ⟨B + 1 + 1 + 1 + 1, 0, none⟩)] 29)).alloc
    (.cells #[.pointer none, .string ⟨#[]⟩, .slice (some ⟨B + 1 + 1 + 1, 0, none⟩) wd wd, .int .u32 0, .int .i64 0, .int .i64 0, .int .i32 0, .int .u32 0, .int .u32 0, .int .u32 0, .int .i32 0, .int .i32 0,
      .slice (some ⟨B + 1 + 1 + 1 + 1 + 1, 0, none⟩) 1 1, .int .i64 ((ll : Int) + 1), .slice none 0 0, .int .i64 0, .int .i64 0, .slice none 0 0, .slice none 0 0, .slice none 0 0] 55))

structure Started (W : World) (B ll wd N : Nat) (f : Nat → Int) (g : Nat → Bool) : Prop where
  tab : TabAt W (B + 1 + 1 + 1 + 1 + 1 + 1) (B + 1 + 1 + 1 + 1 + 1) (B + 1 + 1 + 1 + 1) B (B + 1) wd N (ll + 1) wd (some ⟨B + 1 + 1 + 1, 0, none⟩)
  vals : Row W B N (filled f N)
  flag : ∀ id, id ≤ ll → W.cell? ⟨B + 1, id, none⟩ = some (.bool (decide (id = ll) || g id))
  c0 : W.cell? ⟨B + 1 + 1 + 1 + 1 + 1 + 1, 6, none⟩ = some (.int .i32 0)
  c2 : W.cell? ⟨B + 1 + 1 + 1 + 1 + 1 + 1, 8, none⟩ = some (.int .u32 0)
  c3 : W.cell? ⟨B + 1 + 1 + 1 + 1 + 1 + 1, 9, none⟩ = some (.int .u32 0)
  c4 : W.cell? ⟨B + 1 + 1 + 1 + 1 + 1 + 1, 10, none⟩ = some (.int .i32 0)
  z4 : W.frozen? ⟨B + 1 + 1 + 1 + 1 + 1 + 1, 10, none⟩ = false

theorem start_facts (wq : World) (B ll wd N : Nat) (f : Nat → Int) (g : Nat → Bool) (hs : wq.heap.size = B + 1 + 1) (hv : Row wq B N (filled f N)) (hl : Row wq (B + 1) (ll + 1) (flags g ll)) :
    Started (startW wq B ll wd N) B ll wd N f g := by
  have hv' : Row (startW wq B ll wd N) B N (filled f N) := (((((hv.other _ _ (by simp)).alloc _).alloc _).alloc _).alloc _).alloc _
  have hl1 : Row (wq.setCell ⟨B + 1, ll, none⟩ (.bool true)) (B + 1) (ll + 1) (fun j => .bool (decide (j = ll) || g j)) := by
    refine hl.store ll (by omega) _ fun j hj => ?_
    unfold flags
    by_cases e : j = ll
    · simp [e]
    · rw [if_neg e, if_pos (by omega)]; simp [e]
  have hl' : Row (startW wq B ll wd N) (B + 1) (ll + 1) (fun j => .bool (decide (j = ll) || g j)) := ((((hl1.alloc _).alloc _).alloc _).alloc _).alloc _
  refine ⟨⟨?_, ?_, ?_, ?_, ?_⟩, hv', fun id h => (hl' id (by omega)).1, ?_, ?_, ?_, ?_, ?_⟩
  all_goals unfold startW; simp [go_sem, hs]

theorem bdrew {B : Nat} {a w : World} (h : Below B a w) (n : Nat) : Below B a (w.drewN n) := by
  induction n with
  | zero => exact h
  | succ n ih => exact ih.drew
theorem start_below (wq : World) (B ll wd N : Nat) (w : World) (hs : wq.heap.size = w.heap.size + 1 + 1) (hB : B = w.heap.size) (h : Below w.heap.size w wq) : Below w.heap.size w (startW wq B ll wd N) := by
  subst hB
  refine (((((h.setCell (p := ⟨w.heap.size + 1, ll, none⟩) (by simp) _).alloc (by simp [hs]; omega) _).alloc (by simp [hs]; omega) _).alloc (by simp [hs]; omega) _).alloc (by simp [hs]; omega) _).alloc (by simp [hs]; omega) _

set_option maxHeartbeats 4000000 in
set_option maxRecDepth 100000 in
theorem law_walk (ad bd : Option Addr) (len cap ll lc : Nat) (f : Nat → Int) (g : Nat → Bool) (a2 : Int) (h2 : 0 ≤ a2) (h2' : a2 ≤ 255) (sel : Nat) (hsel : sel < 4294967296) (w : World) (hlen : len ≤ 1024) (hll : ll ≤ 1024)
    (hf : ∀ wx, Below w.heap.size w wx → ∀ k : Nat, k ≤ 10000 → Calls Yba.prog 4 #[.slice ad len cap, .int .i64 k] wx fun e w' => e = .returned (.int .i64 (f k)) ∧ w' = wx)
    (hg : ∀ wx, Below w.heap.size w wx → ∀ k : Nat, k < ll → ∃ b o, bd = some ⟨b, o, none⟩ ∧ wx.cell? ⟨b, o + k, none⟩ = some (.bool (g k))) :
    Calls Yba.prog 3 #[.slice ad len cap, .slice bd ll lc, .int .u8 a2, .int .u32 sel] w fun e w' => e = .returned (.bool true) ∧ Below w.heap.size w w' := by
  obtain ⟨wd, hwd, hwd4⟩ : ∃ wd : Nat, a2 % 5 = wd ∧ wd ≤ 4 := ⟨(a2 % 5).toNat, by omega, by omega⟩
  obtain ⟨N, hN⟩ : ∃ N : Nat, N = (ll + 1) * wd := ⟨_, rfl⟩
  have hNi : ((ll : Int) + 1) * (wd : Int) = (N : Int) := by rw [hN, Int.natCast_mul]; simp
  have hll1 : ll + 1 ≤ 1025 := by omega
  have hN2 : N ≤ 4100 := by rw [hN]; exact Nat.mul_le_mul hll1 hwd4
  have d1 : decide (1024 < (ll : Int)) = false := by simp; omega
  have d2 : decide (1024 < (len : Int)) = false := by simp; omega
  have HN : Hid (N = (ll + 1) * wd) := hN
  clear hN
  have mk1 := fun wx => make_rule (z := .int .i64 0) Yba.underlying22 rfl (by decide) info2 N (by omega) wx
  have mk2 := fun wx => make_rule (z := .bool false) Yba.underlying23 rfl (by decide) info4 (ll + 1) (by omega) wx
  have mk3 := fun wx => make_rule (z := .int .u32 0) Yba.underlying26 rfl (by decide) info24 (ll + 1) (by omega) wx
  have mk4 := fun wx => make_rule (z := .string ⟨#[]⟩) Yba.underlying28 rfl (by decide) info9 wd (by omega) wx
  rw [Int.natCast_add, Int.natCast_one] at mk2 mk3
  have HF : Hid (∀ wx, Below w.heap.size w wx → ∀ k : Nat, k ≤ 10000 → Calls Yba.prog 4 #[.slice ad len cap, .int .i64 k] wx fun e w' => e = .returned (.int .i64 (f k)) ∧ w' = wx) := hf
  have HG : Hid (∀ wx, Below w.heap.size w wx → ∀ k : Nat, k < ll → ∃ b o, bd = some ⟨b, o, none⟩ ∧ wx.cell? ⟨b, o + k, none⟩ = some (.bool (g k))) := hg
  clear hf hg
  have HB0 : Hid (Below w.heap.size w (w.alloc (.cells (fill (.int .i64 0) N) 2))) := (Below.refl _ _).alloc (Nat.le_refl _) _
  have HR0 : Hid (Row (w.alloc (.cells (fill (.int .i64 0) N) 2)) w.heap.size N (filled f 0)) := Row.new w _ N 2
  go_enter Yba.func3, Yba.ntmps3
  go_wp2_with fail
  have HWD : Hid (a2 % 5 = wd) := hwd
  clear hwd hNi
  go_loopw [12] (fun i wr => ∃ k : Nat, k ≤ N ∧ i = .int .i64 k ∧ wr.heap.size = w.heap.size + 1 ∧ Row wr w.heap.size N (filled f k) ∧ Below w.heap.size w wr) (fun i _ => N - (intOf i).toNat)
  case atStart => exact ⟨0, Nat.zero_le _, rfl, by simp, HR0.out, HB0.out⟩
  case round =>
    obtain ⟨k, hk, rfl, hsz, hrow, hbel⟩ := hrel
    have HR : Hid (Row wr w.heap.size N (filled f k)) := hrow
    have HB : Hid (Below w.heap.size w wr) := hbel
    clear hrow hbel HB0 HR0
    by_cases hlt : k < N
    · obtain ⟨c1, c2⟩ := HR.out k hlt
      have c3 : filled f k k = .int .i64 0 := by unfold filled; rw [if_neg (by omega)]
      rw [c3] at c1
      clear c3
      go_wp2_with fail
      refine (HF.out _ HB.out k (by omega)).mono ?_
      rintro e w' ⟨rfl, rfl⟩
      go_wp2_with fail
      go_roundw
      case rel => exact ⟨k + 1, by omega, by go_num, by simpa using hsz, row_filled HR.out hlt, HB.out.setCell (p := ⟨w.heap.size, k, none⟩) (Nat.le_refl _) _⟩
      case measure => simp [intOf]; omega
    · obtain rfl : N = k := by omega
      clear mk1
      have HB1 : Hid (Below w.heap.size w (wr.alloc (.cells (fill (.bool false) (ll + 1)) 4))) := HB.out.alloc (by omega) _
      have HV1 : Hid (Row (wr.alloc (.cells (fill (.bool false) (ll + 1)) 4)) w.heap.size N (filled f N)) := HR.out.alloc _
      have HL1 : Hid (Row (wr.alloc (.cells (fill (.bool false) (ll + 1)) 4)) (w.heap.size + 1) (ll + 1) (flags g 0)) := by
        have := Row.new wr (.bool false) (ll + 1) 4
        rw [hsz] at this
        exact this
      go_wp2_with fail
      clear mk2
      go_loopw [14] (fun i wq => ∃ j : Nat, j ≤ ll ∧ i = .int .i64 j ∧ wq.heap.size = w.heap.size + 1 + 1 ∧ Row wq w.heap.size N (filled f N) ∧ Row wq (w.heap.size + 1) (ll + 1) (flags g j) ∧ Below w.heap.size w wq) (fun i _ => ll - (intOf i).toNat)
      case atStart => exact ⟨0, Nat.zero_le _, rfl, by simp [hsz], HV1.out, HL1.out, HB1.out⟩
      case round =>
        obtain ⟨j, hj, rfl, hsq, hv, hl, hbq⟩ := hrel
        have HV2 : Hid (Row wr w.heap.size N (filled f N)) := hv
        have HL2 : Hid (Row wr (w.heap.size + 1) (ll + 1) (flags g j)) := hl
        have HB2 : Hid (Below w.heap.size w wr) := hbq
        clear hv hl hbq HV1 HL1 HB1 HR HB hsz
        by_cases hlt2 : j < ll
        · obtain ⟨b, o, hbd, hcell⟩ := HG.out wr HB2.out j hlt2
          subst hbd
          obtain ⟨c1, c2⟩ := HL2.out j (by omega)
          have c3 : flags g j j = .bool false := by unfold flags; rw [if_neg (by omega)]
          rw [c3] at c1
          clear c3
          go_wp2_with fail
          go_roundw
          case rel => exact ⟨j + 1, by omega, by go_num, by simpa using hsq, HV2.out.other _ _ (by simp), row_flags HL2.out (by omega), HB2.out.setCell (p := ⟨w.heap.size + 1, j, none⟩) (by simp) _⟩
          case measure => simp [intOf]; omega
        · obtain rfl : ll = j := by omega

          obtain ⟨c1, c2⟩ := HL2.out ll (by omega)
          have c3 : flags g ll ll = .bool false := by unfold flags; rw [if_neg (by omega)]
          rw [c3] at c1
          clear c3
          obtain ⟨id, hid, hidl⟩ : ∃ id : Nat, (sel : Int) % ((ll : Int) + 1) = id ∧ id ≤ ll := ⟨sel % (ll + 1), by rw [Int.natCast_emod]; rfl, Nat.lt_succ_iff.1 (Nat.mod_lt sel (Nat.succ_pos ll))⟩
          have HS : Hid (Started (startW wr w.heap.size ll wd N) w.heap.size ll wd N f g) := start_facts wr w.heap.size ll wd N f g hsq HV2.out HL2.out
          have HB3 : Hid (Below w.heap.size w (startW wr w.heap.size ll wd N)) := start_below wr w.heap.size ll wd N w hsq rfl HB2.out
          go_wp2_with fail
          refine (liveRow_any (startW wr w.heap.size ll wd N) id (decide (id = ll) || g id) _ _ _ (by omega) HS.out.tab hwd4 HN.out (by omega) hll1 (by omega) (by omega) (by omega) (HS.out.flag id hidl) HS.out.c0 HS.out.c2 HS.out.c3 HS.out.c4 HS.out.z4).mono ?_
          rintro e w4 ⟨rfl, m, hw4⟩
          have HV4 : Hid (Row w4 w.heap.size N (filled f N)) := by rw [hw4]; exact ((HS.out.vals.other _ _ (by simp; omega)).drewN m).other _ _ (by simp; omega)
          have HB4 : Hid (Below w.heap.size w w4) := by rw [hw4]; exact (bdrew (HB3.out.setCell (by simp; omega) _) m).setCell (by simp; omega) _
          clear hw4 HS HB3 HV2 HL2 HB2 c1 c2 mk3 mk4
          go_wp2_with fail
          have HI : Hid ((sel : Int) % ((ll : Int) + 1) = id) := hid
          clear hid
          have hm : (id : Int) * (wd : Int) = ((id * wd : Nat) : Int) := (Int.natCast_mul _ _).symm
          have hxN : id * wd + wd ≤ N := by
            rw [HN.out, ← Nat.succ_mul]; exact Nat.mul_le_mul_right _ (by omega)
          generalize id * wd = x at *
          go_loopw [20] (fun i wz => ∃ j : Nat, j ≤ wd ∧ i = .int .i64 j ∧ Row wz w.heap.size N (filled f N) ∧ Below w.heap.size w wz) (fun i _ => wd - (intOf i).toNat)
          case atStart => exact ⟨0, Nat.zero_le _, rfl, HV4.out, HB4.out⟩
          case round =>
            obtain ⟨j, hj, rfl, hv, hbz⟩ := hrel
            have HV5 : Hid (Row wr w.heap.size N (filled f N)) := hv
            have HB5 : Hid (Below w.heap.size w wr) := hbz
            clear hv hbz HV4 HB4
            by_cases hlt3 : j < wd
            · have c1 := (HV5.out (x + j) (by omega)).1
              obtain ⟨y, hy⟩ : ∃ y, y = x + j := ⟨_, rfl⟩
              have c3 : filled f N (x + j) = .int .i64 (f y) := by unfold filled; rw [if_pos (by omega), hy]
              rw [c3] at c1
              have ej : (x : Int) + (j : Int) = (y : Int) := by omega
              have hy2 : y ≤ 10000 := by omega
              clear c3 hy
              go_wp2_with fail
              go_quiet ((go_at_call 4; exact Calls.quiet_of_same (HF.out _ (bdrew HB5.out _) y hy2)))
              go_wp2_with fail
              go_roundw
              case rel => exact ⟨j + 1, by omega, by go_num, HV5.out.drewN _, bdrew HB5.out _⟩
              case measure => simp [intOf]; omega
            · obtain rfl : wd = j := by omega
              have hnp := fun (wx : World) (a : Addr) => Lib.run_neq_ptr_same (P := Yba.prog) wx a Yba.underlying58 info2'
              have xN : (x : Int) ≤ N := by omega
              by_cases hil : id = ll
              · subst hil
                have ht : (decide (id = id) || g id) = true := by simp
                have hee : ((id : Int) == (id : Int)) = true := by simp
                rw [ht]
                clear ht HG
                by_cases h0 : (0 : Int) < (wd : Int)
                · have xN2 : (x : Int) < N := by omega
                  have h0' : decide ((0 : Int) < (wd : Int)) = true := by simpa using h0
                  have h0'' : 0 < wd := by omega
                  go_wp2_with fail
                  go_quiet (fail)
                  go_wp2_with fail
                  go_ret
                  exact ⟨rfl, bdrew HB5.out _⟩
                · obtain rfl : wd = 0 := by omega
                  clear hm h0
                  go_wp2_with fail
                  go_quiet (fail)
                  go_wp2_with fail
                  go_ret
                  exact ⟨rfl, bdrew HB5.out _⟩
              · have ht : (decide (id = ll) || g id) = g id := by simp [hil]
                have hee : ((id : Int) == (ll : Int)) = false := by rw [beq_eq_false_iff_ne]; omega
                have hil2 : id < ll := by omega
                rw [ht]
                clear ht hil
                obtain ⟨b, o, hbd, hcell⟩ := HG.out wr HB5.out id hil2
                subst hbd
                clear HG
                by_cases h0 : (0 : Int) < (wd : Int)
                · have xN2 : (x : Int) < N := by omega
                  have h0' : decide ((0 : Int) < (wd : Int)) = true := by simpa using h0
                  have h0'' : 0 < wd := by omega
                  go_wp2_with fail
                  go_quiet (fail)
                  go_wp2_with fail
                  go_ret
                  exact ⟨ret_bool (by simp), bdrew HB5.out _⟩
                · obtain rfl : wd = 0 := by omega
                  clear hm h0
                  go_wp2_with fail
                  go_quiet (fail)
                  go_wp2_with fail
                  go_ret
                  exact ⟨ret_bool (by simp), bdrew HB5.out _⟩
end Go.Proofs.Ybulkarpy
