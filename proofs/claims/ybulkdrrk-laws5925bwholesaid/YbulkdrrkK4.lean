import Derived.Test.YbulkdrrkK3
import Derived.Deep.CutBlock
namespace Go.Proofs.Ybulkdrrk
open Go.RowKit

theorem Yba.info29 : (Yba.prog.info? 29).map (fun i => (i.zero, i.size, i.bytes)) = some (some (.agg #[.string ByteArray.empty, .string ByteArray.empty, .int .i64 0]), 3, 40) := by kernel_rfl

/-- The data of a drawn frame, as cells. -/
def zzL (k : Nat) (n f : ByteArray) (l : Int) : List Value := [.int .u8 (k : Int), .string n, .string f, .int .i64 l]

/-- What stands after k rounds of the first loop. -/
structure St (B n k : Nat) (a0 sa : Option Addr) (SB : Nat) (ck : Nat) (cn cf : ByteArray) (cl : Int) (Fn Fl : Nat → ByteArray) (Ln : Nat → Int) (w wr : World) : Prop where
  below : Below B w wr
  crt : wr.rangeAt B 0 (zzL ck cn cf cl)
  nil : sa.isNone = a0.isNone
  ad : 0 < n → sa = some ⟨SB, 0, none⟩
  lt : B < SB
  th : wr.there SB 0 (n * 3)
  frs : ∀ j, j < k → wr.rangeAt SB (j * 3) (frL (Fn j) (Fl j) (Ln j))

theorem St.later {B n k : Nat} {a0 sa : Option Addr} {SB ck : Nat} {cn cf : ByteArray} {cl : Int} {Fn Fl : Nat → ByteArray} {Ln : Nat → Int} {w wr wy : World} (h : St B n k a0 sa SB ck cn cf cl Fn Fl Ln w wr) (hB : B ≤ w.heap.size) (hb : Below wr.heap.size wr wy) :
    St B n k a0 sa SB ck cn cf cl Fn Fl Ln w wy :=
  ⟨h.below.trans (hb.mono (Nat.le_trans hB h.below.size)), rangeAt_later h.crt hb, h.nil, h.ad, h.lt,
    fun j hj => by
      obtain ⟨u, hu⟩ := Option.isSome_iff_exists.1 (h.th j hj).1
      have hlt : SB < wr.heap.size := block_lt_of_cell hu
      exact ⟨by rw [cell_later hb hu]; rfl, by rw [hb.frozen (p := ⟨SB, 0 + j, none⟩) hlt]; exact (h.th j hj).2⟩,
    fun j hj => rangeAt_later (h.frs j hj) hb⟩

theorem st_store {B n k : Nat} {a0 sa : Option Addr} {SB ck : Nat} {cn cf : ByteArray} {cl : Int} {Fn Fl : Nat → ByteArray} {Ln : Nat → Int} {w wr : World} (h : St B n k a0 sa SB ck cn cf cl Fn Fl Ln w wr) (hk : k < n) :
    St B n (k + 1) a0 sa SB ck cn cf cl Fn Fl Ln w (wr.setCells SB (k * 3) (frL (Fn k) (Fl k) (Ln k))).drew := by
  have hlt := h.lt
  constructor
  · exact (below_setCells h.below (by omega) _).drew
  · rw [World.rangeAt_drew]; exact World.rangeAt_setCells_apart h.crt _ _ _ (.inl (by omega))
  · exact h.nil
  · exact h.ad
  · exact h.lt
  · rw [World.there_drew]; exact World.there_setCells h.th _ _ _
  · intro j hj
    rw [World.rangeAt_drew]
    by_cases e : j = k
    · subst e
      refine World.rangeAt_setCells_same _ _ _ _ ?_
      intro i hi
      rw [frL_len] at hi
      have := h.th (j * 3 + i) (by omega)
      simpa using this
    · exact World.rangeAt_setCells_apart (h.frs j (by omega)) _ _ _ (.inr (.inl (by rw [frL_len]; omega)))

/-- All frames' cells in one list. -/
def allL (Fn Fl : Nat → ByteArray) (Ln : Nat → Int) (n : Nat) : List Value := (List.range (n * 3)).map fun i => (frL (Fn (i / 3)) (Fl (i / 3)) (Ln (i / 3))).getD (i % 3) undef
theorem allL_len (Fn Fl : Nat → ByteArray) (Ln : Nat → Int) (n : Nat) : (allL Fn Fl Ln n).length = n * 3 := by simp [allL]
theorem allL_get (Fn Fl : Nat → ByteArray) (Ln : Nat → Int) (n i : Nat) (v : Value) (h : (allL Fn Fl Ln n)[i]? = some v) : i < n * 3 ∧ (frL (Fn (i / 3)) (Fl (i / 3)) (Ln (i / 3)))[i % 3]? = some v := by
  have hi : i < n * 3 := by have := (List.getElem?_eq_some_iff.1 h).1; rwa [allL_len] at this
  refine ⟨hi, ?_⟩
  simp only [allL, List.getElem?_map, List.getElem?_range hi, Option.map_some, Option.some.injEq] at h
  have hm : i % 3 < (frL (Fn (i / 3)) (Fl (i / 3)) (Ln (i / 3))).length := by rw [frL_len]; omega
  rw [← h, List.getD_eq_getElem?_getD, List.getElem?_eq_getElem hm]
  rfl
theorem allL_at (Fn Fl : Nat → ByteArray) (Ln : Nat → Int) (n j t : Nat) (hj : j < n) (v : Value) (h : (frL (Fn j) (Fl j) (Ln j))[t]? = some v) : (allL Fn Fl Ln n)[j * 3 + t]? = some v := by
  have ht : t < 3 := by have := (List.getElem?_eq_some_iff.1 h).1; rwa [frL_len] at this
  have hi : j * 3 + t < n * 3 := by omega
  simp only [allL, List.getElem?_map, List.getElem?_range hi, Option.map_some]
  rw [show (j * 3 + t) / 3 = j from by omega, show (j * 3 + t) % 3 = t from by omega, List.getD_eq_getElem?_getD, h]
  rfl
theorem frL_mem {f l : ByteArray} {n : Int} {t : Nat} {v : Value} (h : (frL f l n)[t]? = some v) : v.oneCell' = true := by
  have := List.mem_of_getElem? h
  simp only [frL, List.mem_cons, List.not_mem_nil, or_false] at this
  rcases this with rfl | rfl | rfl <;> rfl
theorem allL_one (Fn Fl : Nat → ByteArray) (Ln : Nat → Int) (n : Nat) : ∀ v ∈ allL Fn Fl Ln n, v.oneCell' = true := by
  intro v hv
  obtain ⟨i, hi⟩ := List.mem_iff_getElem?.1 hv
  exact frL_mem (allL_get Fn Fl Ln n i v hi).2

/-- Behind the copy: what stood stands, and the saved frames lie in the new block. -/
theorem saved_made {B n : Nat} {a0 sa : Option Addr} {SB ck : Nat} {cn cf : ByteArray} {cl : Int} {Fn Fl : Nat → ByteArray} {Ln : Nat → Int} {w wr w5 : World} (h : St B n n a0 sa SB ck cn cf cl Fn Fl Ln w wr) (hBw : B ≤ w.heap.size) (z : Array Value)
    (h5 : w5 = (wr.alloc (.cells (madeCells z (n * 3)) 29)).setCells wr.heap.size 0 (allL Fn Fl Ln n)) :
    St B n n a0 sa SB ck cn cf cl Fn Fl Ln w w5 ∧ (∀ j, j < n → w5.rangeAt wr.heap.size (j * 3) (frL (Fn j) (Fl j) (Ln j))) ∧ Below wr.heap.size wr w5 := by
  have hb : Below wr.heap.size wr w5 := by rw [h5]; exact below_setCells (by go_grown) (Nat.le_refl _) _
  refine ⟨h.later hBw hb, ?_, hb⟩
  intro j hj t v hv
  have ha := allL_at Fn Fl Ln n j t hj v hv
  have := World.rangeAt_setCells_same (wr.alloc (.cells (madeCells z (n * 3)) 29)) wr.heap.size 0 (allL Fn Fl Ln n) (by rw [allL_len]; exact there_made wr z (n * 3) 29) (j * 3 + t) v ha
  rw [h5]
  rw [Nat.zero_add] at this
  exact this

theorem siteL_form (Fn Fl : Nat → ByteArray) (Ln : Nat → Int) (n : Nat) : ∃ f l m, siteL Fn Fl Ln n = frL f l m := by
  unfold siteL; split <;> exact ⟨_, _, _, rfl⟩

set_option maxHeartbeats 1000000 in
theorem neq_fr (f l : ByteArray) (n : Int) (w : World) :
    (binOp .neq 29 (.agg #[.string f, .string l, .int .i64 n]) (.agg #[.string f, .string l, .int .i64 n])).run Yba.prog w = .ok (.bool false) w := by
  rw [run_neq_struct]
  simp [go_sem]

/-- What the law's tail reads: the stack, the saved frames, the creator's frame. -/
structure T1 (n : Nat) (a0 sa : Option Addr) (SB SV CB ck : Nat) (cn cf : ByteArray) (cl : Int) (Fn Fl : Nat → ByteArray) (Ln : Nat → Int) (fc : ByteArray) (w wx : World) : Prop where
  st : St w.heap.size n n a0 sa SB ck cn cf cl Fn Fl Ln w wx
  sv : ∀ j, j < n → wx.rangeAt SV (j * 3) (frL (Fn j) (Fl j) (Ln j))
  cb : wx.rangeAt CB 0 (frL fc cf cl)
theorem T1.later {n : Nat} {a0 sa : Option Addr} {SB SV CB ck : Nat} {cn cf : ByteArray} {cl : Int} {Fn Fl : Nat → ByteArray} {Ln : Nat → Int} {fc : ByteArray} {w wx wy : World} (h : T1 n a0 sa SB SV CB ck cn cf cl Fn Fl Ln fc w wx) (hb : Below wx.heap.size wx wy) :
    T1 n a0 sa SB SV CB ck cn cf cl Fn Fl Ln fc w wy :=
  ⟨h.st.later (Nat.le_refl _) hb, fun j hj => rangeAt_later (h.sv j hj) hb, rangeAt_later h.cb hb⟩

/-- A goroutine's cells. -/
def gL (id : Int) (reason : ByteArray) (leaked : Bool) (sa : Option Addr) (n : Nat) (fc cf : ByteArray) (cl : Int) : List Value := [.int .u64 id, .string reason, .bool leaked, .slice sa n n, .string fc, .string cf, .int .i64 cl]

/-- .. and the goroutine and what blockingSite gave. -/
structure T2 (n : Nat) (a0 sa : Option Addr) (SB SV CB G GT ck : Nat) (cn cf : ByteArray) (cl : Int) (Fn Fl : Nat → ByteArray) (Ln : Nat → Int) (fc : ByteArray) (id : Int) (reason : ByteArray) (leaked : Bool) (gf gl : ByteArray) (gn : Int) (w wx : World) : Prop where
  t1 : T1 n a0 sa SB SV CB ck cn cf cl Fn Fl Ln fc w wx
  g : wx.rangeAt G 0 (gL id reason leaked sa n fc cf cl)
  got : wx.rangeAt GT 0 (frL gf gl gn)
theorem T2.later {n : Nat} {a0 sa : Option Addr} {SB SV CB G GT ck : Nat} {cn cf : ByteArray} {cl : Int} {Fn Fl : Nat → ByteArray} {Ln : Nat → Int} {fc : ByteArray} {id : Int} {reason : ByteArray} {leaked : Bool} {gf gl : ByteArray} {gn : Int} {w wx wy : World}
    (h : T2 n a0 sa SB SV CB G GT ck cn cf cl Fn Fl Ln fc id reason leaked gf gl gn w wx) (hb : Below wx.heap.size wx wy) : T2 n a0 sa SB SV CB G GT ck cn cf cl Fn Fl Ln fc id reason leaked gf gl gn w wy :=
  ⟨h.t1.later hb, rangeAt_later h.g hb, rangeAt_later h.got hb⟩

/-- What the search has found. -/
def Sel (Fn : Nat → ByteArray) (n : Nat) (v : Int) : Prop := (v = -1 ∧ ∀ j, j < n → insB (Fn j) = true) ∨ ∃ m : Nat, m < n ∧ v = m ∧ site Fn n = some m
/-- .. and, behind the next test, the index that is taken. -/
def Sel2 (Fn : Nat → ByteArray) (n : Nat) (v : Int) : Prop := (v = -1 ∧ n = 0) ∨ ∃ m : Nat, m < n ∧ v = m ∧ site Fn n = some m

end Go.Proofs.Ybulkdrrk
