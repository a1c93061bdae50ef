/- THE WRITER's vector: the length ahead of what 'fill' writes. -/
import Derived.Test.Qxb6615713aWriter
namespace Go.Proofs.Qxb6615713a
open Go.RowKit
set_option linter.unusedSimpArgs false
set_option linter.unusedVariables false

/-- The last k big-endian bytes of n. -/
def be : Nat → Int → List Int
  | 0, _ => []
  | k + 1, n => (n / 256 ^ k % 256) :: be k n

/-- A call of function f enters it: it has a Go body. -/
def Ent (f : FuncId) : Prop := ∀ (args : Array Value) (w : World), (callFunc f args).run Try.prog w = .ok (.enter f args) w
theorem ent_of {f : FuncId} {fn : Func} {c : Code} (hf : Try.prog.funcs[f]? = some fn) (hname : (fn.name == "runtime.NumGoroutine") = false) (hb : fn.body = some c) : Ent f := by
  intro args w
  have h1 : fn.name ≠ "runtime.NumGoroutine" := by simpa using hname
  simp [callFunc, hf, h1, hb, mark]

theorem wv_fits {x j y : Nat} (hj : j ≤ 3) (hl : (y : Int) < 256 ^ j) : (x : Int) + j + y - x - j < wrap64 (2 ^ (8 * j)) := by
  have e : (x : Int) + j + y - x - j = y := by omega
  rw [e]
  have h0 : wrap64 (2 ^ (8 * 0)) = 256 ^ 0 := by decide +kernel
  have h1 : wrap64 (2 ^ (8 * 1)) = 256 ^ 1 := by decide +kernel
  have h2 : wrap64 (2 ^ (8 * 2)) = 256 ^ 2 := by decide +kernel
  have h3 : wrap64 (2 ^ (8 * 3)) = 256 ^ 3 := by decide +kernel
  rcases (show j = 0 ∨ j = 1 ∨ j = 2 ∨ j = 3 by omega) with rfl | rfl | rfl | rfl
  · rw [h0]; exact hl
  · rw [h1]; exact hl
  · rw [h2]; exact hl
  · rw [h3]; exact hl

theorem be_length (k : Nat) (n : Int) : (be k n).length = k := by
  induction k with
  | zero => rfl
  | succ k ih => simp [be, ih]

theorem be_wf (k : Nat) (n : Int) : ∀ x ∈ be k n, 0 ≤ x ∧ x ≤ 255 := by
  induction k with
  | zero => intro x hx; simp [be] at hx
  | succ k ih =>
    intro x hx
    rcases List.mem_cons.1 hx with rfl | h
    · omega
    · exact ih x h

theorem be_set (xs ys : List Int) (j t : Nat) (n : Int) (ht : t < j) :
    (xs ++ (List.replicate (j - t) 0 ++ be t n) ++ ys).set (xs.length + j - 1 - t) (n / 2 ^ (8 * t) % 256) = xs ++ (List.replicate (j - (t + 1)) 0 ++ be (t + 1) n) ++ ys := by
  have e1 : List.replicate (j - t) (0 : Int) = List.replicate (j - (t + 1)) 0 ++ [0] := by rw [show j - t = (j - (t + 1)) + 1 by omega, List.replicate_succ']
  have e2 : (2 : Int) ^ (8 * t) = 256 ^ t := by rw [Int.pow_mul]; rfl
  have e3 : xs.length + j - 1 - t = (xs ++ List.replicate (j - (t + 1)) 0).length := by simp; omega
  rw [e1, e2, e3, be]
  have e4 : xs ++ (List.replicate (j - (t + 1)) 0 ++ [0] ++ be t n) ++ ys = (xs ++ List.replicate (j - (t + 1)) 0) ++ (0 :: (be t n ++ ys)) := by simp
  rw [e4, List.set_append_right _ _ (Nat.le_refl _), Nat.sub_self, List.set_cons_zero]
  simp

theorem WrAt.stored {w : World} {p g L cp : Nat} {zs : List Int} (h : WrAt w p (.slice (some ⟨g, 0, none⟩) L cp) zs) (i : Nat) (hi : i < zs.length) (x : Int) (hx : 0 ≤ x ∧ x ≤ 255) :
    (∃ C, w.cell? ⟨g, i, none⟩ = some C) ∧ w.frozen? ⟨g, i, none⟩ = false ∧
    WrAt (w.setCell ⟨g, i, none⟩ (.int .u8 x)).drew p (.slice (some ⟨g, 0, none⟩) L cp) (zs.set i x) ∧ WFr p (.slice (some ⟨g, 0, none⟩) L cp) (.slice (some ⟨g, 0, none⟩) L cp) w (w.setCell ⟨g, i, none⟩ (.int .u8 x)).drew := by
  have hne := h.ne
  obtain ⟨hb, ho, hw⟩ := h
  obtain ⟨ao, c, hv⟩ := Own.form ho
  simp only [Value.slice.injEq] at hv
  obtain ⟨_, rfl, _⟩ := hv
  have hs := World.ownsRow.stored ho i (.int .u8 x)
  have hgp : p ≠ g := fun e => hne (by simp [Value.ownBlock, e])
  refine ⟨⟨_, (World.ownsRow.cellAt ho i (by omega)).trans (by rw [List.getElem?_eq_getElem (by rw [bv_length]; exact hi)])⟩, World.ownsRow.frozenAt ho i, ⟨?_, ?_, ?_⟩, ?_⟩
  · exact (Below.heap_setCell _ _ _ _ hgp).trans hb
  · have h1 : (bv zs).set i (.int .u8 x) = bv (zs.set i x) := by simp [bv, List.map_set]
    have h2 := hs.1
    rw [h1] at h2
    unfold Own
    rw [List.length_set]
    exact h2
  · intro y hy
    rcases List.mem_or_eq_of_mem_set hy with h' | rfl
    · exact hw y h'
    · exact hx
  · exact ⟨rfl, rfl, rfl, by simp [World.setCell], fun k _ _ hk => Below.heap_setCell _ _ _ _ (fun e => hk (by simp [Value.ownBlock, e])), fun g' hg' => .inl hg'⟩

set_option maxHeartbeats 800000 in
set_option maxRecDepth 100000 in
theorem wvector (p P fno : Nat) (caps : Array Value) (v : Value) (xs ys : List Int) (w : World) (hen : Ent fno) (h : WrAt w p v xs) (hP : P ≤ 3) (hlen : (ys.length : Int) < 256 ^ P) (hsz : xs.length + ys.length ≤ 1099511627000)
    (hfill : ∀ w1 v1, WrAt w1 p v1 (xs ++ List.replicate P 0) → WFr p v v1 w w1 → Calls Try.prog fno (#[.pointer (some ⟨p, 0, none⟩)] ++ caps) w1 fun e w2 => e = .returned (.tuple #[]) ∧ ∃ v2, WrAt w2 p v2 (xs ++ List.replicate P 0 ++ ys) ∧ WFr p v1 v2 w1 w2) :
    Calls Try.prog 50 #[.pointer (some ⟨p, 0, none⟩), .int .i64 P, .func (.func fno) #[] caps] w fun e w' => e = .returned (.tuple #[]) ∧ ∃ v', WrAt w' p v' (xs ++ be P ys.length ++ ys) ∧ WFr p v v' w w' := by
  unfold Ent at hen
  obtain ⟨ao, cp, hv⟩ := h.own.form
  subst hv
  have c0 := cell_of_one h.blk
  have HF : Hid _ := hfill
  have HL : Hid ((ys.length : Int) < 256 ^ P) := hlen
  clear hfill hlen
  go_enter Try.func50, Try.ntmps50
  go_wp2_with fail
  go_loopw [7] (fun i wr => ∃ j : Nat, j ≤ P ∧ i = .int .i64 j ∧ ∃ v1, WrAt wr p v1 (xs ++ List.replicate j 0) ∧ WFr p (.slice ao xs.length cp) v1 w wr) (fun i _ => P - (intOf i).toNat)
  case atStart => exact ⟨0, Nat.zero_le _, rfl, _, by simpa using h, WFr.refl _ _ _⟩
  case round =>
    obtain ⟨j, hj, rfl, v1, h1, hw1⟩ := hrel
    clear h c0
    by_cases hlt : j < P
    · obtain ⟨ao1, l1, cp1, hv1⟩ := h1.own.shape
      subst hv1
      have c1 := cell_of_one h1.blk
      have h2 := h1.alloc (.cells #[.int .u8 0] 5)
      have hd := rd_one wr 0 (by omega)
      go_wp2_with (at_builtin; refine wpList_append_bytes rfl _ _ rfl _ (xs ++ List.replicate j 0) rfl h2.own wr.heap.size (some ⟨wr.heap.size, 0, none⟩) 1 1 [0] rfl hd (by simp; omega) ?_)
      intro v2 w2 ho hg hv
      rw [← List.append_assoc] at ho
      have R := h2.appended ho hg (by simpa using hv) hd.wf
      obtain ⟨ao2, l2, cp2, hv2⟩ := ho.shape
      subst hv2
      have hb2 : w2.heap[p]? = _ := (hg.block p h2.lt (fun e => h2.ne e.symm)).trans h2.blk
      have c2 := cell_of_one hb2
      have f2 := free_of_one hb2
      have HR : Hid _ := R
      clear R hb2 hg ho
      go_wp2
      go_roundw
      case rel => exact ⟨j + 1, by omega, by go_num, _, by rw [List.replicate_succ', ← List.append_assoc]; exact HR.out.1, hw1.trans ((WFr.alloc _ _ _ _).trans HR.out.2)⟩
      case measure => simp [intOf]; omega
    · obtain rfl : j = P := by omega
      go_wp2_with fail
      refine (HF.out wr v1 h1 hw1).mono ?_
      rintro e w2 ⟨rfl, v2, h2, hw2⟩
      clear HF h1 hj hlt hen
      obtain ⟨ao2, cp2, hv2⟩ := h2.own.form
      subst hv2
      have c2 := cell_of_one h2.blk
      simp only [List.length_append, List.length_replicate] at c2 hw2 h2
      have hn : (xs.length : Int) + j + ys.length - xs.length - j < wrap64 (2 ^ (8 * j)) := wv_fits hP HL.out
      go_wp2_with fail
      clear hn
      rw [show (xs.length : Int) + j + ys.length - xs.length - j = ys.length by omega]
      by_cases hj0 : j = 0
      · subst hj0
        refine wp_loop_rounds 1 ?_
        rw [rounds_succ]
        go_wp2
        go_end0
        exact ⟨rfl, _, by simpa [be] using h2, hw1.trans hw2⟩
      · obtain ⟨g, hg⟩ : ∃ g, ao2 = some ⟨g, 0, none⟩ := by
          rcases h2.own.2 with ⟨h0, _⟩ | ⟨g, cap, cur, h0, _⟩
          · simp at h0; omega
          · simp at h0; exact ⟨g, h0.1⟩
        rw [hg]
        rw [hg] at c2 h2 hw2
        clear hg
        have hw3 := hw1.trans hw2
        clear hw1 hw2 c2
        go_loopw [9] (fun i wr => ∃ t : Nat, t ≤ j ∧ i = .int .i64 t ∧ WrAt wr p (.slice (some ⟨g, 0, none⟩) (xs.length + j + ys.length) cp2) (xs ++ (List.replicate (j - t) 0 ++ be t ys.length) ++ ys) ∧ WFr p (.slice ao xs.length cp) (.slice (some ⟨g, 0, none⟩) (xs.length + j + ys.length) cp2) w wr) (fun i _ => j - (intOf i).toNat)
        case atStart => exact ⟨0, Nat.zero_le _, rfl, by simpa [be] using h2, hw3⟩
        case round =>
          clear h2 hw3
          obtain ⟨t, ht, rfl, h2, hw3⟩ := hrel
          by_cases hlt : t < j
          · have c2 := cell_of_one h2.blk
            obtain ⟨⟨C, hC⟩, hF, hS, hW⟩ := h2.stored (xs.length + j - 1 - t) (by simp [be_length]; omega) ((ys.length : Int) / 2 ^ (8 * t) % 256) (by omega)
            rw [be_set xs ys j t _ hlt] at hS
            go_wp2_with fail
            go_region
            all_goals (try go_wp2)
            go_roundw
            case rel => exact ⟨t + 1, by omega, by go_num, hS, hw3.trans hW⟩
            case measure => simp [intOf]; omega
          · obtain rfl : t = j := by omega
            go_wp2
            go_end0
            exact ⟨rfl, _, by simpa using h2, hw3⟩


theorem ent74 : Ent 74 := ent_of Try.func74 (by kernel_rfl) rfl

set_option maxHeartbeats 400000 in
theorem fill74 (p k b : Nat) (v : Value) (xs ys : List Int) (a : Option Addr) (n c : Nat) (w : World) (h : WrAt w p v xs) (hk : w.heap[k]? = some (.cells #[.slice a n c] 22 (0, 0))) (hd : Rd w b a n c ys) (hsz : xs.length + ys.length ≤ 1099511627776) :
    Calls Try.prog 74 #[.pointer (some ⟨p, 0, none⟩), .pointer (some ⟨k, 0, none⟩)] w fun e w' => e = .returned (.tuple #[]) ∧ ∃ v', WrAt w' p v' (xs ++ ys) ∧ WFr p v v' w w' := by
  have c0 := cell_of_one hk
  go_enter Try.func74, Try.ntmps74
  go_wp2_with fail
  refine (wbytes p b v xs ys a n c _ h hd hsz).mono ?_
  rintro e w1 ⟨rfl, v1, h1, hw1⟩
  go_wp2
  go_end0
  exact ⟨rfl, v1, h1, hw1⟩

set_option maxHeartbeats 400000 in
theorem wbytesVector (p P b : Nat) (v : Value) (xs ys : List Int) (a : Option Addr) (n c : Nat) (w : World) (h : WrAt w p v xs) (hP : P ≤ 3) (hd : Rd w b a n c ys) (hb : 0 < n → b ≠ p ∧ v.ownBlock ≠ some b) (hlen : (ys.length : Int) < 256 ^ P) (hsz : xs.length + ys.length ≤ 1099511627000) :
    Calls Try.prog 46 #[.pointer (some ⟨p, 0, none⟩), .int .i64 P, .slice a n c] w fun e w' => e = .returned (.tuple #[]) ∧ ∃ v', WrAt w' p v' (xs ++ be P ys.length ++ ys) ∧ WFr p v v' w w' := by
  have HL : Hid ((ys.length : Int) < 256 ^ P) := hlen
  clear hlen
  go_enter Try.func46, Try.ntmps46
  go_wp2_with fail
  refine (wvector p P 74 #[.pointer (some ⟨w.heap.size, 0, none⟩)] v xs ys _ ent74 (h.alloc _) hP HL.out hsz ?_).mono ?_
  · intro w1 v1 h1 hw1
    have hlt := h.lt
    have hk : w1.heap[w.heap.size]? = some (.cells #[.slice a n c] 22 (0, 0)) := by
      refine (hw1.block _ (by simp) (by omega) (fun e => ?_)).trans (heap_alloc_new w _)
      have := h.own.lt e
      omega
    have hd1 : Rd w1 b a n c ys := hw1.rd (hd.move fun hn => Below.heap_alloc _ _ _ (hd.lt hn)) hb
    refine (fill74 p w.heap.size b v1 _ ys a n c w1 h1 hk hd1 (by simp; omega)).mono ?_
    rintro e w2 ⟨rfl, v2, h2, hw2⟩
    exact ⟨rfl, v2, h2, hw2⟩
  · rintro e w1 ⟨rfl, v1, h1, hw1⟩
    go_wp2
    go_end0
    exact ⟨rfl, v1, h1, (WFr.alloc _ _ _ _).trans hw1⟩

set_option maxHeartbeats 400000 in
theorem zbytesVector (p P b : Nat) (v : Value) (xs ys : List Int) (a : Option Addr) (n c : Nat) (w : World) (h : WrAt w p v xs) (hP : P ≤ 3) (hd : Rd w b a n c ys) (hb : 0 < n → b ≠ p ∧ v.ownBlock ≠ some b) (hlen : (ys.length : Int) < 256 ^ P) (hsz : xs.length + ys.length ≤ 1099511627000) :
    Calls Try.prog 18 #[.pointer (some ⟨p, 0, none⟩), .int .i64 P, .slice a n c] w fun e w' => e = .returned (.tuple #[]) ∧ ∃ v', WrAt w' p v' (xs ++ be P ys.length ++ ys) ∧ WFr p v v' w w' := by
  have HL : Hid ((ys.length : Int) < 256 ^ P) := hlen
  clear hlen
  go_enter Try.func18, Try.ntmps18
  go_wp2_with fail
  refine (wbytesVector p P b v xs ys a n c _ h hP hd hb HL.out hsz).mono ?_
  rintro e w1 ⟨rfl, v1, h1, hw1⟩
  go_wp2
  go_end0
  exact ⟨rfl, v1, h1, hw1⟩

set_option maxHeartbeats 400000 in
theorem zbytes (p b : Nat) (v : Value) (xs ys : List Int) (a : Option Addr) (n c : Nat) (w : World) (h : WrAt w p v xs) (hd : Rd w b a n c ys) (hsz : xs.length + ys.length ≤ 1099511627776) :
    Calls Try.prog 19 #[.pointer (some ⟨p, 0, none⟩), .slice a n c] w fun e w' => e = .returned (.tuple #[]) ∧ ∃ v', WrAt w' p v' (xs ++ ys) ∧ WFr p v v' w w' := by
  go_enter Try.func19, Try.ntmps19
  go_wp2_with fail
  refine (wbytes p b v xs ys a n c _ h hd hsz).mono ?_
  rintro e w1 ⟨rfl, v1, h1, hw1⟩
  go_wp2
  go_end0
  exact ⟨rfl, v1, h1, hw1⟩

set_option maxHeartbeats 400000 in
theorem znewWriter (w : World) :
    Calls Try.prog 17 #[] w fun e w' => e = .returned (.pointer (some ⟨w.heap.size, 0, none⟩)) ∧ WrAt w' w.heap.size (.slice none 0 0) [] ∧ Fr [] w w' := by
  go_enter Try.func17, Try.ntmps17
  go_wp2
  go_ret
  exact ⟨rfl, ⟨heap_alloc_new w _, Own.nil _, fun _ h => by cases h⟩, Fr.alloc _ _ _⟩

set_option maxHeartbeats 400000 in
theorem zout (p : Nat) (ao : Option Addr) (l c : Nat) (xs : List Int) (w : World) (h : WrAt w p (.slice ao l c) xs) :
    Calls Try.prog 20 #[.pointer (some ⟨p, 0, none⟩)] w fun e w' => e = .returned (.slice ao l c) ∧ w' = w := by
  have c0 := cell_of_one h.blk
  go_enter Try.func20, Try.ntmps20
  go_wp2
  go_ret
  exact ⟨rfl, rfl⟩

end Go.Proofs.Qxb6615713a
