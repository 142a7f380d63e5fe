import JvmDerived
import JvmDerived.Pilot.@@N@@Statement
import JvmDerived.Pilot.@@N@@Code
set_option linter.unusedVariables false
set_option linter.unusedSimpArgs false
namespace Jvm.RoadKit
open Sem ClassFile Op Lib Jvm.Stand Jvm.Free Jvm.LawKit
section New
variable {p : Program} {l : Launch} {e : Env} {R : Room} {s : State} {m : MethodId} {args : Array Value} {below : List Frame} {meth : Method} {c : Code} {T : State} {locs : List Loc} {cells slots : Nat}
theorem retI (X : Stand p l e R s m args below meth c T locs cells slots) (hx : p.tables.exec = Jvm.exec) {pc : Nat} {Ls : Array Slot} {z : Int32} {rest : List Value} (hret : meth.sig.returnType = some .int) (hd : decode c.code pc = .ok (.ireturn, 1)) {fs : List Frame}
    (hl : ∀ (f : JFrame) (acts : List Action), f.method = m → f.locked = none → f.entered = [] → (doReturn e (T.setTop f) acts (some (.int z))).1 = T.setFrames fs) : Steps p.tables e below (T.setTop (mkF m pc Ls (.int z :: rest))) (T.setFrames fs) := by
  have hm' : T.vm.method? m = some meth := X.method'
  have hn : narrow .int (.int z) = .int z := rfl
  show Steps p.tables e below (T.setTop { method := m, pc := pc, locals := Ls, stack := _ :: rest, locked := none }) _
  jvm_step X.here [X.here.top, hx, hd, hm', hret, hn]
  first | (intro acts; rw [hl _ acts rfl rfl rfl]) | rw [hl _ _ rfl rfl rfl]
  exact Steps.refl _
end New
end Jvm.RoadKit
namespace Jvm.Pilot.@@N@@
open Jvm Jvm.ClassFile Sem Op Lib Jvm.Free Jvm.Stand Jvm.LawKit Jvm.RoadKit Bundle Jvm.Pilot.@@N@@.Jvm.D
def own_sel (c : Bool) (t f : Int32) : Int32 := bif c then t else f
theorem own_bif {tb : Tables} [Ours tb] {e : Env} {below : List Frame} {T target : State} {m : MethodId} {c : Code} {g : JFrame} (h : At T m c below) (hx : tb.exec = Jvm.exec) (hg : g.method = m) {cd : ClassFile.Cond} {x : Int32} {rest : List Value} {v1 v0 : Int} {pc0 : Nat} (hpc : g.pc = pc0) (hd : decode c.code pc0 = .ok (.ifCond cd 7, 3)) (hd1 : decode c.code (pc0 + 3) = .ok (.iconst v1, 1)) (hd2 : decode c.code (pc0 + 4) = .ok (.goto 4, 3)) (hd3 : decode c.code (pc0 + 7) = .ok (.iconst v0, 1)) (hs : g.stack = .int x :: rest)
    (hr : Steps tb e below (T.setTop { g with pc := pc0 + 8, stack := .int (own_sel (if_icmp.holds cd x 0) (Int32.ofInt v0) (Int32.ofInt v1)) :: rest }) target) : Steps tb e below (T.setTop g) target := by
  subst hpc
  cases hh : if_icmp.holds cd x 0 with
  | true =>
    refine XS.ifYes h hx hg (pc0 := g.pc) (pc' := g.pc + 7) rfl hd hs ((if0 _ _).trans hh) (by omega) (by omega) ?_
    refine XS.iconst h hx hg hd3 ?_
    rw [hh] at hr
    exact hr
  | false =>
    refine XS.ifNo h hx hg hd hs ((if0 _ _).trans hh) ?_
    refine XS.iconst h hx hg hd1 ?_
    refine XS.goto h hx hg (pc0 := g.pc + 4) (pc' := g.pc + 8) rfl hd2 (by omega) (by omega) ?_
    rw [hh] at hr
    exact hr
theorem own_bicmp {tb : Tables} [Ours tb] {e : Env} {below : List Frame} {T target : State} {m : MethodId} {c : Code} {g : JFrame} (h : At T m c below) (hx : tb.exec = Jvm.exec) (hg : g.method = m) {cd : ClassFile.Cond} {x y : Int32} {rest : List Value} {v1 v0 : Int} {pc0 : Nat} (hpc : g.pc = pc0) (hd : decode c.code pc0 = .ok (.if_icmp cd 7, 3)) (hd1 : decode c.code (pc0 + 3) = .ok (.iconst v1, 1)) (hd2 : decode c.code (pc0 + 4) = .ok (.goto 4, 3)) (hd3 : decode c.code (pc0 + 7) = .ok (.iconst v0, 1)) (hs : g.stack = .int y :: .int x :: rest)
    (hr : Steps tb e below (T.setTop { g with pc := pc0 + 8, stack := .int (own_sel (if_icmp.holds cd x y) (Int32.ofInt v0) (Int32.ofInt v1)) :: rest }) target) : Steps tb e below (T.setTop g) target := by
  subst hpc
  cases hh : if_icmp.holds cd x y with
  | true =>
    refine XS.icmpYes h hx hg (pc0 := g.pc) (pc' := g.pc + 7) rfl hd hs hh (by omega) (by omega) ?_
    refine XS.iconst h hx hg hd3 ?_
    rw [hh] at hr
    exact hr
  | false =>
    refine XS.icmpNo h hx hg hd hs hh ?_
    refine XS.iconst h hx hg hd1 ?_
    refine XS.goto h hx hg (pc0 := g.pc + 4) (pc' := g.pc + 8) rfl hd2 (by omega) (by omega) ?_
    rw [hh] at hr
    exact hr
theorem own_nar_sel (b : Bool) : nar .boolean (own_sel b (0 : Int32) (1 : Int32)) = own_sel b (0 : Int32) (1 : Int32) := by cases b <;> decide
section OwnRet
variable {p : Program} {l : Launch} {e : Env} {R : Room} {s : State} {m : MethodId} {args : Array Value} {below : List Frame} {meth : Method} {c : Code} {T : State} {locs : List Loc} {cells slots : Nat}
theorem own_retN (X : Stand p l e R s m args below meth c T locs cells slots) (hx : p.tables.exec = Jvm.exec) {pc : Nat} {Ls : Array Slot} {z : Int32} {t : FieldType} {rest : List Value} (hret : meth.sig.returnType = some t) (ht : t = .boolean ∨ t = .byte ∨ t = .char ∨ t = .short)
    (hd : decode c.code pc = .ok (.ireturn, 1)) (hz : nar t z = z) {fs : List Frame} (hl : ∀ (f : JFrame) (acts : List Action), f.method = m → f.locked = none → f.entered = [] → (doReturn e (T.setTop f) acts (some (.int z))).1 = T.setFrames fs) :
    Steps p.tables e below (T.setTop (mkF m pc Ls (.int z :: rest))) (T.setFrames fs) :=
  retN X hx hret ht hd (by rw [hz]; exact hl)
end OwnRet
theorem own_keep_eq {h h' : Heap} {ws : List Addr} (e : h' = h) : Keep h h' ws := by subst e; exact Keep.refl _ _
abbrev own_rem (x y : Int32) : Int32 := x % y
theorem own_irem {tb : Tables} [Ours tb] {e : Env} {below : List Frame} {T target : State} {m : MethodId} {c : Code} {g : JFrame} (h : At T m c below) (hx : tb.exec = Jvm.exec) (hg : g.method = m) {x y : Int32} {rest : List Value} (hd : decode c.code g.pc = .ok (.irem, 1)) (hs : g.stack = .int y :: .int x :: rest) (hy : y ≠ 0)
    (hr : Steps tb e below (T.setTop { g with pc := g.pc + 1, stack := .int (own_rem x y) :: rest }) target) : Steps tb e below (T.setTop g) target :=
  XS.irem h hx hg hd hs hy (by rw [Jvm.irem_eq_mod]; exact hr)
theorem own_stand_le {p : Program} {l : Launch} {e : Env} {R : Room} {s : State} {m : MethodId} {args : Array Value} {below : List Frame} {meth : Method} {c : Code} {T : State} {locs : List Loc} {cells slots cells' slots' : Nat} (X : Stand p l e R s m args below meth c T locs cells slots) (h1 : cells ≤ cells') (h2 : slots ≤ slots') : Stand p l e R s m args below meth c T locs cells' slots' :=
  { X with same := X.same.mono h1 h2 }
theorem own_sta_keep {Z : State} {h h' : Heap} {C n d : String} {v : Value} (S : Sta Z h C n d v) (K : Keep h h' []) : Sta Z h' C n d v := by
  obtain ⟨cf, i, k, f, st, cell, h1, h2, h3, h4, h5, h6, h7⟩ := S
  exact ⟨cf, i, k, f, st, cell, h1, h2, h3, h4, K.2.1 _ _ h5 List.not_mem_nil, h6, h7⟩
theorem own_i32 {i : Nat} (h : i ≤ 255) : (Int32.ofNat i).toInt = i := Int32.toInt_ofNat_small (by omega)
theorem own_n32 {i : Nat} (h : i ≤ 255) : (Int32.ofNat i).toNatClampNeg = i := by
  show (Int32.ofNat i).toInt.toNat = i
  rw [own_i32 h]; rfl
theorem own_nn {i : Nat} (h : i ≤ 255) : ¬ Int32.ofNat i < 0 := by
  rw [Int32.lt_iff_toInt_lt, own_i32 h]
  have : (0 : Int32).toInt = 0 := rfl
  omega
theorem own_lt_iff {i n : Nat} (hi : i ≤ 255) (hn : n ≤ 255) : Int32.ofNat i < Int32.ofNat n ↔ i < n := by
  rw [Int32.lt_iff_toInt_lt, own_i32 hn, own_i32 hi]; omega
theorem own_eq_iff {i n : Nat} (hi : i ≤ 255) (hn : n ≤ 255) : Int32.ofNat i = Int32.ofNat n ↔ i = n := by
  rw [← Int32.toInt_inj, own_i32 hn, own_i32 hi]; omega
theorem own_one (i : Nat) : Int32.ofNat i + (1 : Int32) = Int32.ofNat (i + 1) := (Int32.ofNat_succ i)
/-- how many of the first i places hold p -/
def own_cnt (tv : Nat → Nat) : Nat → Nat → Nat
  | 0, _ => 0
  | i + 1, p => own_cnt tv i p + (if tv i = p then 1 else 0)
theorem own_cnt_le (tv : Nat → Nat) (p : Nat) : ∀ i, own_cnt tv i p ≤ i
  | 0 => Nat.le_refl _
  | i + 1 => by
    have := own_cnt_le tv p i
    show own_cnt tv i p + (if tv i = p then 1 else 0) ≤ i + 1
    split <;> omega
theorem own_cnt_mono (tv : Nat → Nat) (p i : Nat) : ∀ k, own_cnt tv i p ≤ own_cnt tv (i + k) p
  | 0 => Nat.le_refl _
  | k + 1 => Nat.le_trans (own_cnt_mono tv p i k) (Nat.le_add_right _ _)
theorem own_cnt_lt (tv : Nat → Nat) (p i j : Nat) (h : i < j) (e : tv i = p) : own_cnt tv i p < own_cnt tv j p := by
  have h1 := own_cnt_mono tv p (i + 1) (j - (i + 1))
  rw [show i + 1 + (j - (i + 1)) = j by omega] at h1
  have h2 : own_cnt tv (i + 1) p = own_cnt tv i p + 1 := by
    show own_cnt tv i p + (if tv i = p then 1 else 0) = _
    rw [if_pos e]
  omega
/-- one of the places asked: it lies in the array and holds p -/
def own_hit (tv : Nat → Nat) (n k p : Nat) : Nat := if k < n then (if tv k = p then 1 else 0) else 0
theorem own_cnt4 (tv : Nat → Nat) (n p : Nat) (h : n ≤ 4) : own_hit tv n 0 p + own_hit tv n 1 p + own_hit tv n 2 p + own_hit tv n 3 p = own_cnt tv n p := by
  obtain rfl | rfl | rfl | rfl | rfl : n = 0 ∨ n = 1 ∨ n = 2 ∨ n = 3 ∨ n = 4 := by omega
  all_goals simp [own_hit, own_cnt]
theorem own_cnt3 (tv : Nat → Nat) (n p : Nat) (h : n ≤ 3) : own_hit tv n 0 p + own_hit tv n 1 p + own_hit tv n 2 p = own_cnt tv n p := by
  obtain rfl | rfl | rfl | rfl : n = 0 ∨ n = 1 ∨ n = 2 ∨ n = 3 := by omega
  all_goals simp [own_hit, own_cnt]
/-- an array of n ints -/
def own_arr (Z : State) (h : Heap) (a : Addr) (n : Nat) (f : Nat → Int32) : Prop := ∃ c : Cell, Arr Z h a c .int ∧ c.slots.size = n ∧ ∀ j, j < n → c.slots[j]? = some (.int (f j))
theorem own_arr.lt {Z : State} {h : Heap} {a : Addr} {n : Nat} {f : Nat → Int32} (F : own_arr Z h a n f) : a < h.size := by obtain ⟨c, A, -⟩ := F; exact A.lt
theorem own_arr.ext {Z : State} {h h' : Heap} {a : Addr} {n : Nat} {f : Nat → Int32} (F : own_arr Z h a n f) (E : Ext h h') : own_arr Z h' a n f := by obtain ⟨c, A, r⟩ := F; exact ⟨c, A.ext E, r⟩
theorem own_arr.keep {Z : State} {h h' : Heap} {a : Addr} {n : Nat} {f : Nat → Int32} (F : own_arr Z h a n f) (K : Keep h h' []) : own_arr Z h' a n f := by obtain ⟨c, A, r⟩ := F; exact ⟨c, ⟨K.2.1 a c A.1 List.not_mem_nil, A.2⟩, r⟩
theorem own_arr.other {Z : State} {h h' : Heap} {a b : Addr} {n sl : Nat} {v : Value} {f : Nat → Int32} (F : own_arr Z h a n f) (W : Wr h h' b sl v) (q : a ≠ b) : own_arr Z h' a n f := by obtain ⟨c, A, r⟩ := F; exact ⟨c, A.other W q, r⟩
theorem own_arr.congr {Z : State} {h : Heap} {a : Addr} {n : Nat} {f g : Nat → Int32} (F : own_arr Z h a n f) (q : ∀ j, j < n → f j = g j) : own_arr Z h a n g := by
  obtain ⟨c, A, S, H⟩ := F
  exact ⟨c, A, S, fun j hj => by rw [H j hj, q j hj]⟩
theorem own_in {c : Cell} {n j : Nat} (S : c.slots.size = n) (hj : j < n) (hn : n ≤ 255) : ¬ (Int32.ofNat j < 0 ∨ c.slots.size ≤ (Int32.ofNat j).toNatClampNeg) := by
  rw [S, own_n32 (by omega)]
  exact fun q => q.elim (own_nn (by omega)) (fun q => by omega)
theorem own_hat {c : Cell} {n j : Nat} {f : Nat → Int32} (H : ∀ j, j < n → c.slots[j]? = some (.int (f j))) (hj : j < n) (hn : n ≤ 255) : c.slots[(Int32.ofNat j).toNatClampNeg]? = some (.int (f j)) := by
  rw [own_n32 (by omega)]; exact H j hj
theorem own_set {c : Cell} {n j : Nat} {v : Value} {g : Nat → Value} (S : c.slots.size = n) (H : ∀ j, j < n → c.slots[j]? = some (g j)) (hj : j < n) (hn : n ≤ 255) : (c.setSlot (Int32.ofNat j).toNatClampNeg v).slots.size = n ∧ ∀ i, i < n → (c.setSlot (Int32.ofNat j).toNatClampNeg v).slots[i]? = some (if i = j then v else g i) := by
  rw [own_n32 (by omega)]
  refine ⟨by simp [Cell.setSlot, S], fun i hi => ?_⟩
  show (c.slots.setIfInBounds j v)[i]? = _
  rw [Array.getElem?_setIfInBounds]
  by_cases e : i = j
  · subst e; rw [if_pos rfl, if_pos (by omega), if_pos rfl]
  · rw [if_neg (fun q => e q.symm), if_neg e]; exact H i hi
theorem own_arr.set {Z : State} {h h' : Heap} {a : Addr} {c : Cell} {n j : Nat} {x : Int32} {f : Nat → Int32} (A : Arr Z h a c .int) (S : c.slots.size = n) (H : ∀ j, j < n → c.slots[j]? = some (.int (f j))) (W : Wr h h' a (Int32.ofNat j).toNatClampNeg (.int x)) (hj : j < n) (hn : n ≤ 255) : own_arr Z h' a n (fun i => if i = j then x else f i) := by
  obtain ⟨s1, s2⟩ := own_set (v := .int x) (g := fun i => .int (f i)) S H hj hn
  refine ⟨_, A.same W, s1, fun i hi => ?_⟩
  rw [s2 i hi]
  show some (if i = j then Value.int x else Value.int (f i)) = some (Value.int (if i = j then x else f i))
  by_cases e : i = j
  · rw [if_pos e, if_pos e]
  · rw [if_neg e, if_neg e]
theorem own_arr.new {Z : State} {h : Heap} {a : Addr} {k : ClassId} {n : Nat} (A : Arr Z h a (newA k .int (Int32.ofNat n)) .int) (hn : n ≤ 255) : own_arr Z h a n (fun _ => 0) := by
  refine ⟨_, A, by rw [sz_new, own_n32 hn], fun j hj => ?_⟩
  have := get_new (cA := k) (ty := .int) (n := Int32.ofNat n) (k := Int32.ofNat j) (by rw [own_n32 hn, own_n32 (by omega)]; exact fun q => q.elim (own_nn (by omega)) (fun q => by omega))
  rw [own_n32 (by omega)] at this
  exact this
/-- an array of n rows -/
def own_rows (Z : State) (h : Heap) (a : Addr) (k : ClassId) (n : Nat) (r : Nat → Value) : Prop := ∃ c : Cell, Arr Z h a c (.array .int) ∧ c.cls = k ∧ c.slots.size = n ∧ ∀ j, j < n → c.slots[j]? = some (r j)
theorem own_rows.ext {Z : State} {h h' : Heap} {a : Addr} {k : ClassId} {n : Nat} {f : Nat → Value} (F : own_rows Z h a k n f) (E : Ext h h') : own_rows Z h' a k n f := by obtain ⟨c, A, r⟩ := F; exact ⟨c, A.ext E, r⟩
theorem own_rows.keep {Z : State} {h h' : Heap} {a : Addr} {k : ClassId} {n : Nat} {f : Nat → Value} (F : own_rows Z h a k n f) (K : Keep h h' []) : own_rows Z h' a k n f := by obtain ⟨c, A, r⟩ := F; exact ⟨c, ⟨K.2.1 a c A.1 List.not_mem_nil, A.2⟩, r⟩
theorem own_rows.other {Z : State} {h h' : Heap} {a b : Addr} {k : ClassId} {n sl : Nat} {v : Value} {f : Nat → Value} (F : own_rows Z h a k n f) (W : Wr h h' b sl v) (q : a ≠ b) : own_rows Z h' a k n f := by obtain ⟨c, A, r⟩ := F; exact ⟨c, A.other W q, r⟩
theorem own_rows.lt {Z : State} {h : Heap} {a : Addr} {k : ClassId} {n : Nat} {f : Nat → Value} (F : own_rows Z h a k n f) : a < h.size := by obtain ⟨c, A, -⟩ := F; exact A.lt
theorem own_rows.congr {Z : State} {h : Heap} {a : Addr} {k : ClassId} {n : Nat} {f g : Nat → Value} (F : own_rows Z h a k n f) (q : ∀ j, j < n → f j = g j) : own_rows Z h a k n g := by
  obtain ⟨c, A, S0, S, H⟩ := F
  exact ⟨c, A, S0, S, fun j hj => by rw [H j hj, q j hj]⟩
theorem own_rows.new {Z : State} {h : Heap} {a : Addr} {k : ClassId} {n : Nat} (A : Arr Z h a (newA k (.array .int) (Int32.ofNat n)) (.array .int)) (hn : n ≤ 255) : own_rows Z h a k n (fun _ => .null) := by
  refine ⟨_, A, rfl, by rw [sz_new, own_n32 hn], fun j hj => ?_⟩
  have := get_new (cA := k) (ty := .array .int) (n := Int32.ofNat n) (k := Int32.ofNat j) (by rw [own_n32 hn, own_n32 (by omega)]; exact fun q => q.elim (own_nn (by omega)) (fun q => by omega))
  rw [own_n32 (by omega)] at this
  exact this
abbrev own_ft (tv : Nat → Nat) : Nat → Int32 := fun j => Int32.ofNat (tv j)
theorem d4_0 : decode method_2_code 0 = .ok (.iload_n 0, 1) := by decide +kernel
theorem d4_1 : decode method_2_code 1 = .ok (.ldc 7, 2) := by decide +kernel
theorem d4_3 : decode method_2_code 3 = .ok (.iand, 1) := by decide +kernel
theorem d4_4 : decode method_2_code 4 = .ok (.iload_n 1, 1) := by decide +kernel
theorem d4_5 : decode method_2_code 5 = .ok (.irem, 1) := by decide +kernel
theorem d4_6 : decode method_2_code 6 = .ok (.ireturn, 1) := by decide +kernel
theorem pn_4 : plainName "com/example/libpiecewise/libpiecewise/TransformationMonoidPreimagesPinLaw" = true := by first | (simp [plainName, overriddenIn]; done) | decide +kernel
theorem ef_4 (m : MethodId) (x0 : Int32) (x1 : Int32) : entryFrame m #[(.int x0), (.int x1)] 2 = mkF m 0 #[.val (.int x0), .val (.int x1)] [] := by first | (simp [entryFrame, mkF, argsToLocals, Value.category]; done) | rfl
def Q4 (Z : State) (p1 : Int32) (p2 : Int32) (h0 : Heap) (n0 : Nat) (v : Option Value) (h : Heap) (L : List Loc) : Prop := v = some (.int (own_rem (p1 &&& (2147483647 : Int32)) p2)) ∧ Fr n0 L ∧ h = h0
set_option maxRecDepth 65536 in
set_option maxHeartbeats 40000000 in
theorem rm4 (l : Launch) (Z : State) (a0 : Array Value) (hw : ∀ d ∈ tables_1, d.before a0 Z = true) (ws : List Jvm.Cond) (p1 : Int32) (p2 : Int32) (h0 : Heap) (n0 : Nat) (Z0 : n0 ≤ h0.size) (hnz5 : ¬ (p2 = (0 : Int32))) :
    MetFree l (⟨"com/example/libpiecewise/libpiecewise/TransformationMonoidPreimagesPinLaw", "img", "(II)I"⟩ : MethodName) (head1 (Jvm.Cond.code (⟨"com/example/libpiecewise/libpiecewise/TransformationMonoidPreimagesPinLaw", "img", "(II)I"⟩ : MethodName) method_2_code 2 (some .int) :: ws) ({ frames := 0, cells := 0, slots := 0, locals := 0 } : Room)) (fun a U => a = #[(.int p1), (.int p2)] ∧ Z.Warmed39 U.vm ∧ U.heap = h0) (fun _ _ _ _ _ => True) (fun _ U o U' => ∃ v L, o = .returned v ∧ Q4 Z p1 p2 h0 n0 v U'.heap L ∧ FrameEnd U o U' L ({ frames := 0, cells := 0, slots := 0, locals := 0 } : Room).cells ({ frames := 0, cells := 0, slots := 0, locals := 0 } : Room).slots) := by
  refine MetFree.of_bodySF (plainFor_of_name pn_4) hisR ?_
  intro p e s m args below meth c s₁ Bd hml0 hP hK
  obtain ⟨rfl, hZ, hh⟩ := hP
  have hx := Bd.exec
  have hby := Bd.bytes
  have hml : c.maxLocals = 2 := hml0
  have hown : s.vm.findClass "com/example/libpiecewise/libpiecewise/TransformationMonoidPreimagesPinLaw" = some m.cls := findClass_of_methodNamed Bd.named
  have hnm := (name_of_methodNamed Bd.named Bd.method).1
  have X0 : Stand p l e ({ frames := 0, cells := 0, slots := 0, locals := 0 } : Room) s m #[(.int p1), (.int p2)] below meth c s₁ [] 0 0 := Stand.of_body Bd
  have e0 : s₁.heap = h0 := by rw [← hh, Bd.state]; rfl
  have N0 := Fr.nil n0
  have pre0 : ∀ t, Steps p.tables e below (s₁.setTop (mkF m 0 #[.val (.int p1), .val (.int p2)] [])) t → Steps p.tables e below (s₁.setTop (entryFrame m #[(.int p1), (.int p2)] 2)) t := fun t k => castTop (ef_4 m p1 p2) k

  obtain ⟨fs, hr, hrun, hended, hW, hsame⟩ := X0.leave (v := some (.int (own_rem (p1 &&& (2147483647 : Int32)) p2))) (fun h => by rw [Bd.returns] at h; cases h)
  refine ⟨_, _, pre0 _ ?_, hrun, hended, _, _, rfl, ?_, ⟨_, rfl⟩, hW, hsame.mono (by decide) (by decide)⟩
  · show Steps p.tables e below (s₁.setTop (mkF m 0 #[.val (.int p1), .val (.int p2)] [])) _
    refine XS.iloadN X0.here hx rfl (hb hby d4_0) rfl ?_
    show Steps p.tables e below (s₁.setTop (mkF m 1 #[.val (.int p1), .val (.int p2)] [(.int p1)])) _
    refine X0.ldcInt hx hown (mvT hZ (hw _ (List.mem_of_getElem? (i := 0) rfl))) (g := (mkF m 1 #[.val (.int p1), .val (.int p2)] [(.int p1)])) rfl (hb hby d4_1) _ ?_
    show Steps p.tables e below (s₁.setTop (mkF m 3 #[.val (.int p1), .val (.int p2)] [(.int (2147483647 : Int32)), (.int p1)])) _
    refine XS.iand X0.here hx rfl (hb hby d4_3) rfl ?_
    show Steps p.tables e below (s₁.setTop (mkF m 4 #[.val (.int p1), .val (.int p2)] [(.int (p1 &&& (2147483647 : Int32)))])) _
    refine XS.iloadN X0.here hx rfl (hb hby d4_4) rfl ?_
    show Steps p.tables e below (s₁.setTop (mkF m 5 #[.val (.int p1), .val (.int p2)] [(.int p2), (.int (p1 &&& (2147483647 : Int32)))])) _
    refine own_irem X0.here hx rfl (hb hby d4_5) rfl hnz5 ?_
    show Steps p.tables e below (s₁.setTop (mkF m 6 #[.val (.int p1), .val (.int p2)] [(.int (own_rem (p1 &&& (2147483647 : Int32)) p2))])) _
    exact retI X0 hx Bd.returns (hb hby d4_6) hr      -- retI stands in the head ('lawwalk <made dir>' prints it)
  · show Q4 Z p1 p2 h0 n0 _ s₁.heap _
    rw [e0]
    exact ⟨rfl, N0, rfl⟩

theorem d6_0 : decode method_3_code 0 = .ok (.iload_n 1, 1) := by decide +kernel
theorem d6_1 : decode method_3_code 1 = .ok (.aload_n 0, 1) := by decide +kernel
theorem d6_2 : decode method_3_code 2 = .ok (.arraylength, 1) := by decide +kernel
theorem d6_3 : decode method_3_code 3 = .ok (.if_icmp .ge 9, 3) := by decide +kernel
theorem d6_12 : decode method_3_code 12 = .ok (.iconst (-1), 1) := by decide +kernel
theorem d6_13 : decode method_3_code 13 = .ok (.ireturn, 1) := by decide +kernel
theorem pn_6 : plainName "com/example/libpiecewise/libpiecewise/TransformationMonoidPreimagesPinLaw" = true := by first | (simp [plainName, overriddenIn]; done) | decide +kernel
theorem ef_6 (m : MethodId) (x0 : Addr) (x1 : Int32) : entryFrame m #[(.ref x0), (.int x1)] 2 = mkF m 0 #[.val (.ref x0), .val (.int x1)] [] := by first | (simp [entryFrame, mkF, argsToLocals, Value.category]; done) | rfl
theorem d6_6 : decode method_3_code 6 = .ok (.aload_n 0, 1) := by decide +kernel
theorem d6_7 : decode method_3_code 7 = .ok (.iload_n 1, 1) := by decide +kernel
theorem d6_8 : decode method_3_code 8 = .ok (.iaload, 1) := by decide +kernel
theorem d6_9 : decode method_3_code 9 = .ok (.goto 4, 3) := by decide +kernel
def Q6 (Z : State) (w : Int32) (h0 : Heap) (n0 : Nat) (v : Option Value) (h : Heap) (L : List Loc) : Prop := v = some (.int w) ∧ Fr n0 L ∧ h = h0
set_option maxRecDepth 65536 in
set_option maxHeartbeats 40000000 in
theorem rm6_t (l : Launch) (Z : State) (a0 : Array Value) (hw : ∀ d ∈ tables_1, d.before a0 Z = true) (ws : List Jvm.Cond) (a1 : Addr) (p2 : Int32) (cl_a1 : Cell) (z_a1 : Int32) (h0 : Heap) (n0 : Nat) (Z0 : n0 ≤ h0.size) (Ar_a1 : Arr Z h0 a1 cl_a1 .int) (S_a1 : cl_a1.slots.size = z_a1.toNatClampNeg) (N_a1 : ¬ z_a1 < 0) (hc3 : ¬ (p2 < z_a1)) :
    MetFree l (⟨"com/example/libpiecewise/libpiecewise/TransformationMonoidPreimagesPinLaw", "at", "([II)I"⟩ : MethodName) (head1 (Jvm.Cond.code (⟨"com/example/libpiecewise/libpiecewise/TransformationMonoidPreimagesPinLaw", "at", "([II)I"⟩ : MethodName) method_3_code 2 (some .int) :: ws) ({ frames := 0, cells := 0, slots := 0, locals := 0 } : Room)) (fun a U => a = #[(.ref a1), (.int p2)] ∧ Z.Warmed39 U.vm ∧ U.heap = h0) (fun _ _ _ _ _ => True) (fun _ U o U' => ∃ v L, o = .returned v ∧ Q6 Z (-1 : Int32) h0 n0 v U'.heap L ∧ FrameEnd U o U' L ({ frames := 0, cells := 0, slots := 0, locals := 0 } : Room).cells ({ frames := 0, cells := 0, slots := 0, locals := 0 } : Room).slots) := by
  refine MetFree.of_bodySF (plainFor_of_name pn_6) hisR ?_
  intro p e s m args below meth c s₁ Bd hml0 hP hK
  obtain ⟨rfl, hZ, hh⟩ := hP
  have hx := Bd.exec
  have hby := Bd.bytes
  have hml : c.maxLocals = 2 := hml0
  have hown : s.vm.findClass "com/example/libpiecewise/libpiecewise/TransformationMonoidPreimagesPinLaw" = some m.cls := findClass_of_methodNamed Bd.named
  have hnm := (name_of_methodNamed Bd.named Bd.method).1
  have X0 : Stand p l e ({ frames := 0, cells := 0, slots := 0, locals := 0 } : Room) s m #[(.ref a1), (.int p2)] below meth c s₁ [] 0 0 := Stand.of_body Bd
  have e0 : s₁.heap = h0 := by rw [← hh, Bd.state]; rfl
  have N0 := Fr.nil n0
  have pre0 : ∀ t, Steps p.tables e below (s₁.setTop (mkF m 0 #[.val (.ref a1), .val (.int p2)] [])) t → Steps p.tables e below (s₁.setTop (entryFrame m #[(.ref a1), (.int p2)] 2)) t := fun t k => castTop (ef_6 m a1 p2) k

  obtain ⟨fs, hr, hrun, hended, hW, hsame⟩ := X0.leave (v := some (.int (-1 : Int32))) (fun h => by rw [Bd.returns] at h; cases h)
  refine ⟨_, _, pre0 _ ?_, hrun, hended, _, _, rfl, ?_, ⟨_, rfl⟩, hW, hsame.mono (by decide) (by decide)⟩
  · show Steps p.tables e below (s₁.setTop (mkF m 0 #[.val (.ref a1), .val (.int p2)] [])) _
    refine XS.iloadN X0.here hx rfl (hb hby d6_0) rfl ?_
    show Steps p.tables e below (s₁.setTop (mkF m 1 #[.val (.ref a1), .val (.int p2)] [(.int p2)])) _
    refine XS.aloadN X0.here hx rfl (hb hby d6_1) rfl rfl ?_
    show Steps p.tables e below (s₁.setTop (mkF m 2 #[.val (.ref a1), .val (.int p2)] [(.ref a1), (.int p2)])) _
    refine X0.arraylength hx (by rw [e0]; exact Ar_a1.1) (State.isArrayOf_alike hZ.alike Ar_a1.2.1) (g := (mkF m 2 #[.val (.ref a1), .val (.int p2)] [(.ref a1), (.int p2)])) rfl rfl (hb hby d6_2) _ ?_
    rw [len_of S_a1 N_a1]
    show Steps p.tables e below (s₁.setTop (mkF m 3 #[.val (.ref a1), .val (.int p2)] [(.int z_a1), (.int p2)])) _
    refine XS.icmpYes X0.here hx rfl (pc0 := 3) (pc' := 12) rfl (hb hby d6_3) rfl (flt hc3).2.1 (by decide) (by decide) ?_
    show Steps p.tables e below (s₁.setTop (mkF m 12 #[.val (.ref a1), .val (.int p2)] [])) _
    refine XS.iconst X0.here hx rfl (hb hby d6_12) ?_
    show Steps p.tables e below (s₁.setTop (mkF m 13 #[.val (.ref a1), .val (.int p2)] [(.int (-1 : Int32))])) _
    exact retI X0 hx Bd.returns (hb hby d6_13) hr      -- retI stands in the head ('lawwalk <made dir>' prints it)
  · show Q6 Z (-1 : Int32) h0 n0 _ s₁.heap _
    rw [e0]
    exact ⟨rfl, N0, rfl⟩

set_option maxRecDepth 65536 in
set_option maxHeartbeats 40000000 in
theorem rm6_f (l : Launch) (Z : State) (a0 : Array Value) (hw : ∀ d ∈ tables_1, d.before a0 Z = true) (ws : List Jvm.Cond) (a1 : Addr) (p2 : Int32) (cl_a1 : Cell) (z_a1 : Int32) (w3 : Int32) (h0 : Heap) (n0 : Nat) (Z0 : n0 ≤ h0.size) (Ar_a1 : Arr Z h0 a1 cl_a1 .int) (S_a1 : cl_a1.slots.size = z_a1.toNatClampNeg) (N_a1 : ¬ z_a1 < 0) (hin8 : ¬ (p2 < 0 ∨ cl_a1.slots.size ≤ (p2).toNatClampNeg)) (hat8 : cl_a1.slots[(p2).toNatClampNeg]? = some (.int w3)) (hc3 : p2 < z_a1) :
    MetFree l (⟨"com/example/libpiecewise/libpiecewise/TransformationMonoidPreimagesPinLaw", "at", "([II)I"⟩ : MethodName) (head1 (Jvm.Cond.code (⟨"com/example/libpiecewise/libpiecewise/TransformationMonoidPreimagesPinLaw", "at", "([II)I"⟩ : MethodName) method_3_code 2 (some .int) :: ws) ({ frames := 0, cells := 0, slots := 0, locals := 0 } : Room)) (fun a U => a = #[(.ref a1), (.int p2)] ∧ Z.Warmed39 U.vm ∧ U.heap = h0) (fun _ _ _ _ _ => True) (fun _ U o U' => ∃ v L, o = .returned v ∧ Q6 Z w3 h0 n0 v U'.heap L ∧ FrameEnd U o U' L ({ frames := 0, cells := 0, slots := 0, locals := 0 } : Room).cells ({ frames := 0, cells := 0, slots := 0, locals := 0 } : Room).slots) := by
  refine MetFree.of_bodySF (plainFor_of_name pn_6) hisR ?_
  intro p e s m args below meth c s₁ Bd hml0 hP hK
  obtain ⟨rfl, hZ, hh⟩ := hP
  have hx := Bd.exec
  have hby := Bd.bytes
  have hml : c.maxLocals = 2 := hml0
  have hown : s.vm.findClass "com/example/libpiecewise/libpiecewise/TransformationMonoidPreimagesPinLaw" = some m.cls := findClass_of_methodNamed Bd.named
  have hnm := (name_of_methodNamed Bd.named Bd.method).1
  have X0 : Stand p l e ({ frames := 0, cells := 0, slots := 0, locals := 0 } : Room) s m #[(.ref a1), (.int p2)] below meth c s₁ [] 0 0 := Stand.of_body Bd
  have e0 : s₁.heap = h0 := by rw [← hh, Bd.state]; rfl
  have N0 := Fr.nil n0
  have pre0 : ∀ t, Steps p.tables e below (s₁.setTop (mkF m 0 #[.val (.ref a1), .val (.int p2)] [])) t → Steps p.tables e below (s₁.setTop (entryFrame m #[(.ref a1), (.int p2)] 2)) t := fun t k => castTop (ef_6 m a1 p2) k

  obtain ⟨fs, hr, hrun, hended, hW, hsame⟩ := X0.leave (v := some (.int w3)) (fun h => by rw [Bd.returns] at h; cases h)
  refine ⟨_, _, pre0 _ ?_, hrun, hended, _, _, rfl, ?_, ⟨_, rfl⟩, hW, hsame.mono (by decide) (by decide)⟩
  · show Steps p.tables e below (s₁.setTop (mkF m 0 #[.val (.ref a1), .val (.int p2)] [])) _
    refine XS.iloadN X0.here hx rfl (hb hby d6_0) rfl ?_
    show Steps p.tables e below (s₁.setTop (mkF m 1 #[.val (.ref a1), .val (.int p2)] [(.int p2)])) _
    refine XS.aloadN X0.here hx rfl (hb hby d6_1) rfl rfl ?_
    show Steps p.tables e below (s₁.setTop (mkF m 2 #[.val (.ref a1), .val (.int p2)] [(.ref a1), (.int p2)])) _
    refine X0.arraylength hx (by rw [e0]; exact Ar_a1.1) (State.isArrayOf_alike hZ.alike Ar_a1.2.1) (g := (mkF m 2 #[.val (.ref a1), .val (.int p2)] [(.ref a1), (.int p2)])) rfl rfl (hb hby d6_2) _ ?_
    rw [len_of S_a1 N_a1]
    show Steps p.tables e below (s₁.setTop (mkF m 3 #[.val (.ref a1), .val (.int p2)] [(.int z_a1), (.int p2)])) _
    refine XS.icmpNo X0.here hx rfl (hb hby d6_3) rfl (tlt hc3).2.1 ?_
    show Steps p.tables e below (s₁.setTop (mkF m 6 #[.val (.ref a1), .val (.int p2)] [])) _
    refine XS.aloadN X0.here hx rfl (hb hby d6_6) rfl rfl ?_
    show Steps p.tables e below (s₁.setTop (mkF m 7 #[.val (.ref a1), .val (.int p2)] [(.ref a1)])) _
    refine XS.iloadN X0.here hx rfl (hb hby d6_7) rfl ?_
    show Steps p.tables e below (s₁.setTop (mkF m 8 #[.val (.ref a1), .val (.int p2)] [(.int p2), (.ref a1)])) _
    refine X0.iaload hx (j := p2) (v := (.int w3)) (by rw [e0]; exact Ar_a1.1) (State.isArrayOf_alike hZ.alike Ar_a1.2.1) Ar_a1.2.2 hin8 hat8 (g := (mkF m 8 #[.val (.ref a1), .val (.int p2)] [(.int p2), (.ref a1)])) rfl rfl (hb hby d6_8) _ ?_
    show Steps p.tables e below (s₁.setTop (mkF m 9 #[.val (.ref a1), .val (.int p2)] [(.int w3)])) _
    refine XS.goto X0.here hx rfl (pc0 := 9) (pc' := 13) rfl (hb hby d6_9) (by decide) (by decide) ?_
    show Steps p.tables e below (s₁.setTop (mkF m 13 #[.val (.ref a1), .val (.int p2)] [(.int w3)])) _
    exact retI X0 hx Bd.returns (hb hby d6_13) hr      -- retI stands in the head ('lawwalk <made dir>' prints it)
  · show Q6 Z w3 h0 n0 _ s₁.heap _
    rw [e0]
    exact ⟨rfl, N0, rfl⟩

def own_att (n : Nat) (f : Nat → Int32) (i : Nat) : Int32 := if i < n then f i else -1
theorem rm6 (l : Launch) (Z : State) (a0 : Array Value) (hw : ∀ d ∈ tables_1, d.before a0 Z = true) (ws : List Jvm.Cond) (a1 : Addr) (i n : Nat) (f : Nat → Int32) (h0 : Heap) (n0 : Nat) (Z0 : n0 ≤ h0.size) (hi : i ≤ 255) (hn : n ≤ 255) (V : own_arr Z h0 a1 n f) :
    MetFree l (⟨"com/example/libpiecewise/libpiecewise/TransformationMonoidPreimagesPinLaw", "at", "([II)I"⟩ : MethodName) (head1 (Jvm.Cond.code (⟨"com/example/libpiecewise/libpiecewise/TransformationMonoidPreimagesPinLaw", "at", "([II)I"⟩ : MethodName) method_3_code 2 (some .int) :: ws) ({ frames := 0, cells := 0, slots := 0, locals := 0 } : Room)) (fun a U => a = #[(.ref a1), (.int (Int32.ofNat i))] ∧ Z.Warmed39 U.vm ∧ U.heap = h0) (fun _ _ _ _ _ => True) (fun _ U o U' => ∃ v L, o = .returned v ∧ Q6 Z (own_att n f i) h0 n0 v U'.heap L ∧ FrameEnd U o U' L ({ frames := 0, cells := 0, slots := 0, locals := 0 } : Room).cells ({ frames := 0, cells := 0, slots := 0, locals := 0 } : Room).slots) := by
  obtain ⟨cl, Ar, S, H⟩ := V
  unfold own_att
  have S' : cl.slots.size = (Int32.ofNat n).toNatClampNeg := by rw [own_n32 hn]; exact S
  by_cases h : i < n
  · rw [if_pos h]
    exact rm6_f l Z a0 hw ws a1 (Int32.ofNat i) cl (Int32.ofNat n) (f i) h0 n0 Z0 Ar S' (own_nn hn) (own_in S h hn) (own_hat H h hn) ((own_lt_iff hi hn).2 h)
  · rw [if_neg h]
    exact rm6_t l Z a0 hw ws a1 (Int32.ofNat i) cl (Int32.ofNat n) h0 n0 Z0 Ar S' (own_nn hn) (fun q => h ((own_lt_iff hi hn).1 q))
theorem d5_0 : decode method_4_code 0 = .ok (.iconst 0, 1) := by decide +kernel
theorem d5_1 : decode method_4_code 1 = .ok (.istore_n 2, 1) := by decide +kernel
theorem d5_2 : decode method_4_code 2 = .ok (.aload_n 0, 1) := by decide +kernel
theorem d5_3 : decode method_4_code 3 = .ok (.iconst 0, 1) := by decide +kernel
theorem d5_4 : decode method_4_code 4 = .ok (.invokestatic 8, 3) := by decide +kernel
theorem d5_7 : decode method_4_code 7 = .ok (.iload_n 1, 1) := by decide +kernel
theorem d5_8 : decode method_4_code 8 = .ok (.if_icmp .ne 6, 3) := by decide +kernel
theorem d5_11 : decode method_4_code 11 = .ok (.iinc 2 1, 3) := by decide +kernel
theorem d5_14 : decode method_4_code 14 = .ok (.aload_n 0, 1) := by decide +kernel
theorem d5_15 : decode method_4_code 15 = .ok (.iconst 1, 1) := by decide +kernel
theorem d5_16 : decode method_4_code 16 = .ok (.invokestatic 8, 3) := by decide +kernel
theorem d5_19 : decode method_4_code 19 = .ok (.iload_n 1, 1) := by decide +kernel
theorem d5_20 : decode method_4_code 20 = .ok (.if_icmp .ne 6, 3) := by decide +kernel
theorem d5_23 : decode method_4_code 23 = .ok (.iinc 2 1, 3) := by decide +kernel
theorem d5_26 : decode method_4_code 26 = .ok (.aload_n 0, 1) := by decide +kernel
theorem d5_27 : decode method_4_code 27 = .ok (.iconst 2, 1) := by decide +kernel
theorem d5_28 : decode method_4_code 28 = .ok (.invokestatic 8, 3) := by decide +kernel
theorem d5_31 : decode method_4_code 31 = .ok (.iload_n 1, 1) := by decide +kernel
theorem d5_32 : decode method_4_code 32 = .ok (.if_icmp .ne 6, 3) := by decide +kernel
theorem d5_35 : decode method_4_code 35 = .ok (.iinc 2 1, 3) := by decide +kernel
theorem d5_38 : decode method_4_code 38 = .ok (.aload_n 0, 1) := by decide +kernel
theorem d5_39 : decode method_4_code 39 = .ok (.iconst 3, 1) := by decide +kernel
theorem d5_40 : decode method_4_code 40 = .ok (.invokestatic 8, 3) := by decide +kernel
theorem d5_43 : decode method_4_code 43 = .ok (.iload_n 1, 1) := by decide +kernel
theorem d5_44 : decode method_4_code 44 = .ok (.if_icmp .ne 6, 3) := by decide +kernel
theorem d5_47 : decode method_4_code 47 = .ok (.iinc 2 1, 3) := by decide +kernel
theorem d5_50 : decode method_4_code 50 = .ok (.iload_n 2, 1) := by decide +kernel
theorem d5_51 : decode method_4_code 51 = .ok (.ireturn, 1) := by decide +kernel
theorem pn_5 : plainName "com/example/libpiecewise/libpiecewise/TransformationMonoidPreimagesPinLaw" = true := by first | (simp [plainName, overriddenIn]; done) | decide +kernel
theorem pd_5_3 : parseMethodDescriptor "([II)I" = some ⟨[(.array .int), .int], some .int⟩ := by decide +kernel
theorem ef_5 (m : MethodId) (x0 : Addr) (x1 : Int32) : entryFrame m #[(.ref x0), (.int x1)] 3 = mkF m 0 #[.val (.ref x0), .val (.int x1), .unset] [] := by first | (simp [entryFrame, mkF, argsToLocals, Value.category]; done) | rfl
theorem os5_1 {z0 : Value} {z1 : Value} {s2 : Slot} {v : Int32} (h : One s2) : storeLocals #[.val z0, .val z1, s2] 2 (.int v) = some #[.val z0, .val z1, .val (.int v)] := by
  rcases h with rfl | ⟨w, rfl, hw⟩
  · rfl
  · cases w <;> first | rfl | (simp [Value.category] at hw)
set_option maxRecDepth 65536 in
set_option maxHeartbeats 40000000 in
theorem tn5_0f {p : Program} {l : Launch} {e : Env} {s : State} {m : MethodId} {args : Array Value} {below : List Frame} {meth : Method} {c : Code} {T0 : State} {locs : List Loc} {Z : State} {a0 : Array Value} {h0 : Heap} (o0 : Addr) (i1 : Int32) (s2 : Slot) (n : Nat) (f : Nat → Int32) (n0 : Nat)
    (X0 : Stand p l e ({ frames := 1, cells := 0, slots := 0, locals := 13 } : Room) s m args below meth c T0 locs 0 0) (hx : p.tables.exec = Jvm.exec) (hZ : Z.Warmed39 s.vm) (hw : ∀ d ∈ tables_1, d.before a0 Z = true) (hby : c.code = method_4_code) (hml : c.maxLocals = 3) (hown : s.vm.findClass "com/example/libpiecewise/libpiecewise/TransformationMonoidPreimagesPinLaw" = some m.cls) (e0 : T0.heap = h0) (Z0 : n0 ≤ h0.size) (N0 : Fr n0 locs) (hn : n ≤ 255) (V : own_arr Z h0 o0 n f) (hq : own_att n f 0 = i1) (hs2 : One s2) :
    ∃ (T' : State) (locs' : List Loc), Stand p l e ({ frames := 1, cells := 0, slots := 0, locals := 13 } : Room) s m args below meth c T' locs' 0 0 ∧ T'.heap = h0 ∧ Fr n0 locs' ∧
      ∀ target, Steps p.tables e below (T'.setTop (mkF m 14 #[.val (.ref o0), .val (.int i1), .val (.int ((0 : Int32) + (1 : Int32)))] [])) target → Steps p.tables e below (T0.setTop (mkF m 0 #[.val (.ref o0), .val (.int i1), s2] [])) target := by
  obtain ⟨_, _, ⟨T3, L3, k3, n3⟩, -, X3, ⟨Lc3, hQ3, l3, y3, z3⟩, st3⟩ := Jvm.LawKit.callS X0 hx (y := (⟨"com/example/libpiecewise/libpiecewise/TransformationMonoidPreimagesPinLaw", "at", "([II)I"⟩ : MethodName)) hown (mvT hZ (hw _ (List.mem_of_getElem? (i := 22) rfl))) (mvT hZ (hw _ (List.mem_of_getElem? (i := 23) rfl))) (mvT hZ (hw _ (List.mem_of_getElem? (i := 10) rfl))) (mvT hZ (hw _ (List.mem_of_getElem? (i := 24) rfl))) (by decide) (backOf (W := 0) (rm6 l Z a0 hw [] o0 0 n f h0 n0 Z0 (by decide) hn V) hZ (hw _ (List.mem_of_getElem? (i := 24) rfl)) (hw _ (List.mem_of_getElem? (i := 10) rfl)) (by decide) (by decide)) (g := (mkF m 4 #[.val (.ref o0), .val (.int i1), .val (.int (0 : Int32))] [(.int (0 : Int32)), (.ref o0)])) rfl (by rw [hml]; rfl) (argsL := [(.ref o0), (.int (0 : Int32))]) (rest := []) (lenOf pd_5_3 rfl) rfl (by show 2 * 0 + _ ≤ _; exact Nat.le_of_eq rfl) (hb hby d5_4) (fun _ _ => ⟨rfl, e0, (by decide : 0 + 0 ≤ _), (by decide : 0 + 0 ≤ _)⟩)
  dsimp only [Pt.U, Pt.locs, Pt.cells, Pt.slots] at X3 l3 y3 z3 st3 hQ3
  subst l3 y3 z3
  obtain ⟨rfl, N3q, e3⟩ := hQ3      -- what it returned, that it wrote nothing old, and the rest of your Q6
  have N3 := Fr.app N0 N3q
  refine ⟨T3, _, X3, e3, N3, fun target kt => ?_⟩
  show Steps p.tables e below (T0.setTop (mkF m 0 #[.val (.ref o0), .val (.int i1), s2] [])) _
  refine XS.iconst X0.here hx rfl (hb hby d5_0) ?_
  show Steps p.tables e below (T0.setTop (mkF m 1 #[.val (.ref o0), .val (.int i1), s2] [(.int (0 : Int32))])) _
  refine XS.istoreN X0.here hx rfl (hb hby d5_1) rfl (l' := #[.val (.ref o0), .val (.int i1), .val (.int (0 : Int32))]) (os5_1 hs2) ?_
  show Steps p.tables e below (T0.setTop (mkF m 2 #[.val (.ref o0), .val (.int i1), .val (.int (0 : Int32))] [])) _
  refine XS.aloadN X0.here hx rfl (hb hby d5_2) rfl rfl ?_
  show Steps p.tables e below (T0.setTop (mkF m 3 #[.val (.ref o0), .val (.int i1), .val (.int (0 : Int32))] [(.ref o0)])) _
  refine XS.iconst X0.here hx rfl (hb hby d5_3) ?_
  show Steps p.tables e below (T0.setTop (mkF m 4 #[.val (.ref o0), .val (.int i1), .val (.int (0 : Int32))] [(.int (0 : Int32)), (.ref o0)])) _
  refine st3 _ ?_
  show Steps p.tables e below (T3.setTop (mkF m 7 #[.val (.ref o0), .val (.int i1), .val (.int (0 : Int32))] [(.int (own_att n f 0))])) _
  refine XS.iloadN X3.here hx rfl (hb hby d5_7) rfl ?_
  show Steps p.tables e below (T3.setTop (mkF m 8 #[.val (.ref o0), .val (.int i1), .val (.int (0 : Int32))] [(.int i1), (.int (own_att n f 0))])) _
  refine XS.icmpNo X3.here hx rfl (hb hby d5_8) rfl (teq (hq : (own_att n f 0) = i1)).2 ?_
  show Steps p.tables e below (T3.setTop (mkF m 11 #[.val (.ref o0), .val (.int i1), .val (.int (0 : Int32))] [])) _
  refine XS.iinc X3.here hx rfl (hb hby d5_11) rfl (l' := #[.val (.ref o0), .val (.int i1), .val (.int ((0 : Int32) + (1 : Int32)))]) rfl ?_
  exact kt

set_option maxRecDepth 65536 in
set_option maxHeartbeats 40000000 in
theorem tn5_0t {p : Program} {l : Launch} {e : Env} {s : State} {m : MethodId} {args : Array Value} {below : List Frame} {meth : Method} {c : Code} {T0 : State} {locs : List Loc} {Z : State} {a0 : Array Value} {h0 : Heap} (o0 : Addr) (i1 : Int32) (s2 : Slot) (n : Nat) (f : Nat → Int32) (n0 : Nat)
    (X0 : Stand p l e ({ frames := 1, cells := 0, slots := 0, locals := 13 } : Room) s m args below meth c T0 locs 0 0) (hx : p.tables.exec = Jvm.exec) (hZ : Z.Warmed39 s.vm) (hw : ∀ d ∈ tables_1, d.before a0 Z = true) (hby : c.code = method_4_code) (hml : c.maxLocals = 3) (hown : s.vm.findClass "com/example/libpiecewise/libpiecewise/TransformationMonoidPreimagesPinLaw" = some m.cls) (e0 : T0.heap = h0) (Z0 : n0 ≤ h0.size) (N0 : Fr n0 locs) (hn : n ≤ 255) (V : own_arr Z h0 o0 n f) (hq : ¬ own_att n f 0 = i1) (hs2 : One s2) :
    ∃ (T' : State) (locs' : List Loc), Stand p l e ({ frames := 1, cells := 0, slots := 0, locals := 13 } : Room) s m args below meth c T' locs' 0 0 ∧ T'.heap = h0 ∧ Fr n0 locs' ∧
      ∀ target, Steps p.tables e below (T'.setTop (mkF m 14 #[.val (.ref o0), .val (.int i1), .val (.int (0 : Int32))] [])) target → Steps p.tables e below (T0.setTop (mkF m 0 #[.val (.ref o0), .val (.int i1), s2] [])) target := by
  obtain ⟨_, _, ⟨T3, L3, k3, n3⟩, -, X3, ⟨Lc3, hQ3, l3, y3, z3⟩, st3⟩ := Jvm.LawKit.callS X0 hx (y := (⟨"com/example/libpiecewise/libpiecewise/TransformationMonoidPreimagesPinLaw", "at", "([II)I"⟩ : MethodName)) hown (mvT hZ (hw _ (List.mem_of_getElem? (i := 22) rfl))) (mvT hZ (hw _ (List.mem_of_getElem? (i := 23) rfl))) (mvT hZ (hw _ (List.mem_of_getElem? (i := 10) rfl))) (mvT hZ (hw _ (List.mem_of_getElem? (i := 24) rfl))) (by decide) (backOf (W := 0) (rm6 l Z a0 hw [] o0 0 n f h0 n0 Z0 (by decide) hn V) hZ (hw _ (List.mem_of_getElem? (i := 24) rfl)) (hw _ (List.mem_of_getElem? (i := 10) rfl)) (by decide) (by decide)) (g := (mkF m 4 #[.val (.ref o0), .val (.int i1), .val (.int (0 : Int32))] [(.int (0 : Int32)), (.ref o0)])) rfl (by rw [hml]; rfl) (argsL := [(.ref o0), (.int (0 : Int32))]) (rest := []) (lenOf pd_5_3 rfl) rfl (by show 2 * 0 + _ ≤ _; exact Nat.le_of_eq rfl) (hb hby d5_4) (fun _ _ => ⟨rfl, e0, (by decide : 0 + 0 ≤ _), (by decide : 0 + 0 ≤ _)⟩)
  dsimp only [Pt.U, Pt.locs, Pt.cells, Pt.slots] at X3 l3 y3 z3 st3 hQ3
  subst l3 y3 z3
  obtain ⟨rfl, N3q, e3⟩ := hQ3      -- what it returned, that it wrote nothing old, and the rest of your Q6
  have N3 := Fr.app N0 N3q
  refine ⟨T3, _, X3, e3, N3, fun target kt => ?_⟩
  show Steps p.tables e below (T0.setTop (mkF m 0 #[.val (.ref o0), .val (.int i1), s2] [])) _
  refine XS.iconst X0.here hx rfl (hb hby d5_0) ?_
  show Steps p.tables e below (T0.setTop (mkF m 1 #[.val (.ref o0), .val (.int i1), s2] [(.int (0 : Int32))])) _
  refine XS.istoreN X0.here hx rfl (hb hby d5_1) rfl (l' := #[.val (.ref o0), .val (.int i1), .val (.int (0 : Int32))]) (os5_1 hs2) ?_
  show Steps p.tables e below (T0.setTop (mkF m 2 #[.val (.ref o0), .val (.int i1), .val (.int (0 : Int32))] [])) _
  refine XS.aloadN X0.here hx rfl (hb hby d5_2) rfl rfl ?_
  show Steps p.tables e below (T0.setTop (mkF m 3 #[.val (.ref o0), .val (.int i1), .val (.int (0 : Int32))] [(.ref o0)])) _
  refine XS.iconst X0.here hx rfl (hb hby d5_3) ?_
  show Steps p.tables e below (T0.setTop (mkF m 4 #[.val (.ref o0), .val (.int i1), .val (.int (0 : Int32))] [(.int (0 : Int32)), (.ref o0)])) _
  refine st3 _ ?_
  show Steps p.tables e below (T3.setTop (mkF m 7 #[.val (.ref o0), .val (.int i1), .val (.int (0 : Int32))] [(.int (own_att n f 0))])) _
  refine XS.iloadN X3.here hx rfl (hb hby d5_7) rfl ?_
  show Steps p.tables e below (T3.setTop (mkF m 8 #[.val (.ref o0), .val (.int i1), .val (.int (0 : Int32))] [(.int i1), (.int (own_att n f 0))])) _
  refine XS.icmpYes X3.here hx rfl (pc0 := 8) (pc' := 14) rfl (hb hby d5_8) rfl (feq (hq : ¬ ((own_att n f 0) = i1))).2 (by decide) (by decide) ?_
  exact kt

theorem cs5_0 {p : Program} {l : Launch} {e : Env} {s : State} {m : MethodId} {args : Array Value} {below : List Frame} {meth : Method} {c : Code} {T0 : State} {locs : List Loc} {Z : State} {a0 : Array Value} {h0 : Heap} (o0 : Addr) (p' n : Nat) (tv : Nat → Nat) (n0 : Nat)
    (X0 : Stand p l e ({ frames := 1, cells := 0, slots := 0, locals := 13 } : Room) s m args below meth c T0 locs 0 0) (hx : p.tables.exec = Jvm.exec) (hZ : Z.Warmed39 s.vm) (hw : ∀ d ∈ tables_1, d.before a0 Z = true) (hby : c.code = method_4_code) (hml : c.maxLocals = 3) (hown : s.vm.findClass "com/example/libpiecewise/libpiecewise/TransformationMonoidPreimagesPinLaw" = some m.cls) (e0 : T0.heap = h0) (Z0 : n0 ≤ h0.size) (N0 : Fr n0 locs) (hn : n ≤ 4) (hp : p' ≤ 4) (htv : ∀ j, j < n → tv j < n) (V : own_arr Z h0 o0 n (own_ft tv)) :
    ∃ (T' : State) (locs' : List Loc), Stand p l e ({ frames := 1, cells := 0, slots := 0, locals := 13 } : Room) s m args below meth c T' locs' 0 0 ∧ T'.heap = h0 ∧ Fr n0 locs' ∧
      ∀ target, Steps p.tables e below (T'.setTop (mkF m 14 #[.val (.ref o0), .val (.int (Int32.ofNat p')), .val (.int (Int32.ofNat (own_hit tv n 0 p')))] [])) target → Steps p.tables e below (T0.setTop (mkF m 0 #[.val (.ref o0), .val (.int (Int32.ofNat p')), .unset] [])) target := by
  have hk : own_att n (own_ft tv) 0 = Int32.ofNat p' ↔ (0 < n ∧ tv 0 = p') := by
    unfold own_att
    by_cases h : 0 < n
    · rw [if_pos h]
      have h1 := htv 0 h
      rw [show own_ft tv 0 = Int32.ofNat (tv 0) from rfl, own_eq_iff (by omega) (by omega)]
      exact ⟨fun q => ⟨h, q⟩, fun q => q.2⟩
    · rw [if_neg h]
      refine ⟨fun q => ?_, fun q => absurd q.1 h⟩
      have := congrArg Int32.toInt q
      rw [own_i32 (by omega)] at this
      have m1 : (-1 : Int32).toInt = -1 := by decide
      omega
  by_cases h : own_att n (own_ft tv) 0 = Int32.ofNat p'
  · have q : own_hit tv n 0 p' = 1 := by unfold own_hit; rw [if_pos (hk.1 h).1, if_pos (hk.1 h).2]
    obtain ⟨T', locs', X', e', N', st⟩ := tn5_0f o0 (Int32.ofNat p') .unset n (own_ft tv) n0 X0 hx hZ hw hby hml hown e0 Z0 N0 (by omega) V h One.u
    refine ⟨T', locs', X', e', N', fun target hh => st target ?_⟩
    rw [q] at hh
    exact hh
  · have q : own_hit tv n 0 p' = 0 := by
      unfold own_hit
      by_cases h1 : 0 < n
      · rw [if_pos h1, if_neg (fun r => h (hk.2 ⟨h1, r⟩))]
      · rw [if_neg h1]
    obtain ⟨T', locs', X', e', N', st⟩ := tn5_0t o0 (Int32.ofNat p') .unset n (own_ft tv) n0 X0 hx hZ hw hby hml hown e0 Z0 N0 (by omega) V h One.u
    refine ⟨T', locs', X', e', N', fun target hh => st target ?_⟩
    rw [q] at hh
    exact hh
set_option maxRecDepth 65536 in
set_option maxHeartbeats 40000000 in
theorem tn5_1f {p : Program} {l : Launch} {e : Env} {s : State} {m : MethodId} {args : Array Value} {below : List Frame} {meth : Method} {c : Code} {T0 : State} {locs : List Loc} {Z : State} {a0 : Array Value} {h0 : Heap} (o0 : Addr) (i1 : Int32) (i2 : Int32) (n : Nat) (f : Nat → Int32) (n0 : Nat)
    (X0 : Stand p l e ({ frames := 1, cells := 0, slots := 0, locals := 13 } : Room) s m args below meth c T0 locs 0 0) (hx : p.tables.exec = Jvm.exec) (hZ : Z.Warmed39 s.vm) (hw : ∀ d ∈ tables_1, d.before a0 Z = true) (hby : c.code = method_4_code) (hml : c.maxLocals = 3) (hown : s.vm.findClass "com/example/libpiecewise/libpiecewise/TransformationMonoidPreimagesPinLaw" = some m.cls) (e0 : T0.heap = h0) (Z0 : n0 ≤ h0.size) (N0 : Fr n0 locs) (hn : n ≤ 255) (V : own_arr Z h0 o0 n f) (hq : own_att n f 1 = i1) :
    ∃ (T' : State) (locs' : List Loc), Stand p l e ({ frames := 1, cells := 0, slots := 0, locals := 13 } : Room) s m args below meth c T' locs' 0 0 ∧ T'.heap = h0 ∧ Fr n0 locs' ∧
      ∀ target, Steps p.tables e below (T'.setTop (mkF m 26 #[.val (.ref o0), .val (.int i1), .val (.int (i2 + (1 : Int32)))] [])) target → Steps p.tables e below (T0.setTop (mkF m 14 #[.val (.ref o0), .val (.int i1), .val (.int i2)] [])) target := by
  obtain ⟨_, _, ⟨T3, L3, k3, n3⟩, -, X3, ⟨Lc3, hQ3, l3, y3, z3⟩, st3⟩ := Jvm.LawKit.callS X0 hx (y := (⟨"com/example/libpiecewise/libpiecewise/TransformationMonoidPreimagesPinLaw", "at", "([II)I"⟩ : MethodName)) hown (mvT hZ (hw _ (List.mem_of_getElem? (i := 22) rfl))) (mvT hZ (hw _ (List.mem_of_getElem? (i := 23) rfl))) (mvT hZ (hw _ (List.mem_of_getElem? (i := 10) rfl))) (mvT hZ (hw _ (List.mem_of_getElem? (i := 24) rfl))) (by decide) (backOf (W := 0) (rm6 l Z a0 hw [] o0 1 n f h0 n0 Z0 (by decide) hn V) hZ (hw _ (List.mem_of_getElem? (i := 24) rfl)) (hw _ (List.mem_of_getElem? (i := 10) rfl)) (by decide) (by decide)) (g := (mkF m 16 #[.val (.ref o0), .val (.int i1), .val (.int i2)] [(.int (1 : Int32)), (.ref o0)])) rfl (by rw [hml]; rfl) (argsL := [(.ref o0), (.int (1 : Int32))]) (rest := []) (lenOf pd_5_3 rfl) rfl (by show 2 * 0 + _ ≤ _; exact Nat.le_of_eq rfl) (hb hby d5_16) (fun _ _ => ⟨rfl, e0, (by decide : 0 + 0 ≤ _), (by decide : 0 + 0 ≤ _)⟩)
  dsimp only [Pt.U, Pt.locs, Pt.cells, Pt.slots] at X3 l3 y3 z3 st3 hQ3
  subst l3 y3 z3
  obtain ⟨rfl, N3q, e3⟩ := hQ3      -- what it returned, that it wrote nothing old, and the rest of your Q6
  have N3 := Fr.app N0 N3q
  refine ⟨T3, _, X3, e3, N3, fun target kt => ?_⟩
  show Steps p.tables e below (T0.setTop (mkF m 14 #[.val (.ref o0), .val (.int i1), .val (.int i2)] [])) _
  refine XS.aloadN X0.here hx rfl (hb hby d5_14) rfl rfl ?_
  show Steps p.tables e below (T0.setTop (mkF m 15 #[.val (.ref o0), .val (.int i1), .val (.int i2)] [(.ref o0)])) _
  refine XS.iconst X0.here hx rfl (hb hby d5_15) ?_
  show Steps p.tables e below (T0.setTop (mkF m 16 #[.val (.ref o0), .val (.int i1), .val (.int i2)] [(.int (1 : Int32)), (.ref o0)])) _
  refine st3 _ ?_
  show Steps p.tables e below (T3.setTop (mkF m 19 #[.val (.ref o0), .val (.int i1), .val (.int i2)] [(.int (own_att n f 1))])) _
  refine XS.iloadN X3.here hx rfl (hb hby d5_19) rfl ?_
  show Steps p.tables e below (T3.setTop (mkF m 20 #[.val (.ref o0), .val (.int i1), .val (.int i2)] [(.int i1), (.int (own_att n f 1))])) _
  refine XS.icmpNo X3.here hx rfl (hb hby d5_20) rfl (teq (hq : (own_att n f 1) = i1)).2 ?_
  show Steps p.tables e below (T3.setTop (mkF m 23 #[.val (.ref o0), .val (.int i1), .val (.int i2)] [])) _
  refine XS.iinc X3.here hx rfl (hb hby d5_23) rfl (l' := #[.val (.ref o0), .val (.int i1), .val (.int (i2 + (1 : Int32)))]) rfl ?_
  exact kt

set_option maxRecDepth 65536 in
set_option maxHeartbeats 40000000 in
theorem tn5_1t {p : Program} {l : Launch} {e : Env} {s : State} {m : MethodId} {args : Array Value} {below : List Frame} {meth : Method} {c : Code} {T0 : State} {locs : List Loc} {Z : State} {a0 : Array Value} {h0 : Heap} (o0 : Addr) (i1 : Int32) (s2 : Slot) (n : Nat) (f : Nat → Int32) (n0 : Nat)
    (X0 : Stand p l e ({ frames := 1, cells := 0, slots := 0, locals := 13 } : Room) s m args below meth c T0 locs 0 0) (hx : p.tables.exec = Jvm.exec) (hZ : Z.Warmed39 s.vm) (hw : ∀ d ∈ tables_1, d.before a0 Z = true) (hby : c.code = method_4_code) (hml : c.maxLocals = 3) (hown : s.vm.findClass "com/example/libpiecewise/libpiecewise/TransformationMonoidPreimagesPinLaw" = some m.cls) (e0 : T0.heap = h0) (Z0 : n0 ≤ h0.size) (N0 : Fr n0 locs) (hn : n ≤ 255) (V : own_arr Z h0 o0 n f) (hq : ¬ own_att n f 1 = i1) :
    ∃ (T' : State) (locs' : List Loc), Stand p l e ({ frames := 1, cells := 0, slots := 0, locals := 13 } : Room) s m args below meth c T' locs' 0 0 ∧ T'.heap = h0 ∧ Fr n0 locs' ∧
      ∀ target, Steps p.tables e below (T'.setTop (mkF m 26 #[.val (.ref o0), .val (.int i1), s2] [])) target → Steps p.tables e below (T0.setTop (mkF m 14 #[.val (.ref o0), .val (.int i1), s2] [])) target := by
  obtain ⟨_, _, ⟨T3, L3, k3, n3⟩, -, X3, ⟨Lc3, hQ3, l3, y3, z3⟩, st3⟩ := Jvm.LawKit.callS X0 hx (y := (⟨"com/example/libpiecewise/libpiecewise/TransformationMonoidPreimagesPinLaw", "at", "([II)I"⟩ : MethodName)) hown (mvT hZ (hw _ (List.mem_of_getElem? (i := 22) rfl))) (mvT hZ (hw _ (List.mem_of_getElem? (i := 23) rfl))) (mvT hZ (hw _ (List.mem_of_getElem? (i := 10) rfl))) (mvT hZ (hw _ (List.mem_of_getElem? (i := 24) rfl))) (by decide) (backOf (W := 0) (rm6 l Z a0 hw [] o0 1 n f h0 n0 Z0 (by decide) hn V) hZ (hw _ (List.mem_of_getElem? (i := 24) rfl)) (hw _ (List.mem_of_getElem? (i := 10) rfl)) (by decide) (by decide)) (g := (mkF m 16 #[.val (.ref o0), .val (.int i1), s2] [(.int (1 : Int32)), (.ref o0)])) rfl (by rw [hml]; rfl) (argsL := [(.ref o0), (.int (1 : Int32))]) (rest := []) (lenOf pd_5_3 rfl) rfl (by show 2 * 0 + _ ≤ _; exact Nat.le_of_eq rfl) (hb hby d5_16) (fun _ _ => ⟨rfl, e0, (by decide : 0 + 0 ≤ _), (by decide : 0 + 0 ≤ _)⟩)
  dsimp only [Pt.U, Pt.locs, Pt.cells, Pt.slots] at X3 l3 y3 z3 st3 hQ3
  subst l3 y3 z3
  obtain ⟨rfl, N3q, e3⟩ := hQ3      -- what it returned, that it wrote nothing old, and the rest of your Q6
  have N3 := Fr.app N0 N3q
  refine ⟨T3, _, X3, e3, N3, fun target kt => ?_⟩
  show Steps p.tables e below (T0.setTop (mkF m 14 #[.val (.ref o0), .val (.int i1), s2] [])) _
  refine XS.aloadN X0.here hx rfl (hb hby d5_14) rfl rfl ?_
  show Steps p.tables e below (T0.setTop (mkF m 15 #[.val (.ref o0), .val (.int i1), s2] [(.ref o0)])) _
  refine XS.iconst X0.here hx rfl (hb hby d5_15) ?_
  show Steps p.tables e below (T0.setTop (mkF m 16 #[.val (.ref o0), .val (.int i1), s2] [(.int (1 : Int32)), (.ref o0)])) _
  refine st3 _ ?_
  show Steps p.tables e below (T3.setTop (mkF m 19 #[.val (.ref o0), .val (.int i1), s2] [(.int (own_att n f 1))])) _
  refine XS.iloadN X3.here hx rfl (hb hby d5_19) rfl ?_
  show Steps p.tables e below (T3.setTop (mkF m 20 #[.val (.ref o0), .val (.int i1), s2] [(.int i1), (.int (own_att n f 1))])) _
  refine XS.icmpYes X3.here hx rfl (pc0 := 20) (pc' := 26) rfl (hb hby d5_20) rfl (feq (hq : ¬ ((own_att n f 1) = i1))).2 (by decide) (by decide) ?_
  exact kt

theorem cs5_1 {p : Program} {l : Launch} {e : Env} {s : State} {m : MethodId} {args : Array Value} {below : List Frame} {meth : Method} {c : Code} {T0 : State} {locs : List Loc} {Z : State} {a0 : Array Value} {h0 : Heap} (o0 : Addr) (p' n : Nat) (tv : Nat → Nat) (S : Nat) (n0 : Nat)
    (X0 : Stand p l e ({ frames := 1, cells := 0, slots := 0, locals := 13 } : Room) s m args below meth c T0 locs 0 0) (hx : p.tables.exec = Jvm.exec) (hZ : Z.Warmed39 s.vm) (hw : ∀ d ∈ tables_1, d.before a0 Z = true) (hby : c.code = method_4_code) (hml : c.maxLocals = 3) (hown : s.vm.findClass "com/example/libpiecewise/libpiecewise/TransformationMonoidPreimagesPinLaw" = some m.cls) (e0 : T0.heap = h0) (Z0 : n0 ≤ h0.size) (N0 : Fr n0 locs) (hn : n ≤ 4) (hp : p' ≤ 4) (htv : ∀ j, j < n → tv j < n) (V : own_arr Z h0 o0 n (own_ft tv)) :
    ∃ (T' : State) (locs' : List Loc), Stand p l e ({ frames := 1, cells := 0, slots := 0, locals := 13 } : Room) s m args below meth c T' locs' 0 0 ∧ T'.heap = h0 ∧ Fr n0 locs' ∧
      ∀ target, Steps p.tables e below (T'.setTop (mkF m 26 #[.val (.ref o0), .val (.int (Int32.ofNat p')), .val (.int (Int32.ofNat (S + own_hit tv n 1 p')))] [])) target → Steps p.tables e below (T0.setTop (mkF m 14 #[.val (.ref o0), .val (.int (Int32.ofNat p')), .val (.int (Int32.ofNat S))] [])) target := by
  have hk : own_att n (own_ft tv) 1 = Int32.ofNat p' ↔ (1 < n ∧ tv 1 = p') := by
    unfold own_att
    by_cases h : 1 < n
    · rw [if_pos h]
      have h1 := htv 1 h
      rw [show own_ft tv 1 = Int32.ofNat (tv 1) from rfl, own_eq_iff (by omega) (by omega)]
      exact ⟨fun q => ⟨h, q⟩, fun q => q.2⟩
    · rw [if_neg h]
      refine ⟨fun q => ?_, fun q => absurd q.1 h⟩
      have := congrArg Int32.toInt q
      rw [own_i32 (by omega)] at this
      have m1 : (-1 : Int32).toInt = -1 := by decide
      omega
  by_cases h : own_att n (own_ft tv) 1 = Int32.ofNat p'
  · have q : own_hit tv n 1 p' = 1 := by unfold own_hit; rw [if_pos (hk.1 h).1, if_pos (hk.1 h).2]
    obtain ⟨T', locs', X', e', N', st⟩ := tn5_1f o0 (Int32.ofNat p') (Int32.ofNat S) n (own_ft tv) n0 X0 hx hZ hw hby hml hown e0 Z0 N0 (by omega) V h
    refine ⟨T', locs', X', e', N', fun target hh => st target ?_⟩
    rw [q] at hh
    rw [own_one]; exact hh
  · have q : own_hit tv n 1 p' = 0 := by
      unfold own_hit
      by_cases h1 : 1 < n
      · rw [if_pos h1, if_neg (fun r => h (hk.2 ⟨h1, r⟩))]
      · rw [if_neg h1]
    obtain ⟨T', locs', X', e', N', st⟩ := tn5_1t o0 (Int32.ofNat p') (.val (.int (Int32.ofNat S))) n (own_ft tv) n0 X0 hx hZ hw hby hml hown e0 Z0 N0 (by omega) V h
    refine ⟨T', locs', X', e', N', fun target hh => st target ?_⟩
    rw [q] at hh
    exact hh
set_option maxRecDepth 65536 in
set_option maxHeartbeats 40000000 in
theorem tn5_2f {p : Program} {l : Launch} {e : Env} {s : State} {m : MethodId} {args : Array Value} {below : List Frame} {meth : Method} {c : Code} {T0 : State} {locs : List Loc} {Z : State} {a0 : Array Value} {h0 : Heap} (o0 : Addr) (i1 : Int32) (i2 : Int32) (n : Nat) (f : Nat → Int32) (n0 : Nat)
    (X0 : Stand p l e ({ frames := 1, cells := 0, slots := 0, locals := 13 } : Room) s m args below meth c T0 locs 0 0) (hx : p.tables.exec = Jvm.exec) (hZ : Z.Warmed39 s.vm) (hw : ∀ d ∈ tables_1, d.before a0 Z = true) (hby : c.code = method_4_code) (hml : c.maxLocals = 3) (hown : s.vm.findClass "com/example/libpiecewise/libpiecewise/TransformationMonoidPreimagesPinLaw" = some m.cls) (e0 : T0.heap = h0) (Z0 : n0 ≤ h0.size) (N0 : Fr n0 locs) (hn : n ≤ 255) (V : own_arr Z h0 o0 n f) (hq : own_att n f 2 = i1) :
    ∃ (T' : State) (locs' : List Loc), Stand p l e ({ frames := 1, cells := 0, slots := 0, locals := 13 } : Room) s m args below meth c T' locs' 0 0 ∧ T'.heap = h0 ∧ Fr n0 locs' ∧
      ∀ target, Steps p.tables e below (T'.setTop (mkF m 38 #[.val (.ref o0), .val (.int i1), .val (.int (i2 + (1 : Int32)))] [])) target → Steps p.tables e below (T0.setTop (mkF m 26 #[.val (.ref o0), .val (.int i1), .val (.int i2)] [])) target := by
  obtain ⟨_, _, ⟨T3, L3, k3, n3⟩, -, X3, ⟨Lc3, hQ3, l3, y3, z3⟩, st3⟩ := Jvm.LawKit.callS X0 hx (y := (⟨"com/example/libpiecewise/libpiecewise/TransformationMonoidPreimagesPinLaw", "at", "([II)I"⟩ : MethodName)) hown (mvT hZ (hw _ (List.mem_of_getElem? (i := 22) rfl))) (mvT hZ (hw _ (List.mem_of_getElem? (i := 23) rfl))) (mvT hZ (hw _ (List.mem_of_getElem? (i := 10) rfl))) (mvT hZ (hw _ (List.mem_of_getElem? (i := 24) rfl))) (by decide) (backOf (W := 0) (rm6 l Z a0 hw [] o0 2 n f h0 n0 Z0 (by decide) hn V) hZ (hw _ (List.mem_of_getElem? (i := 24) rfl)) (hw _ (List.mem_of_getElem? (i := 10) rfl)) (by decide) (by decide)) (g := (mkF m 28 #[.val (.ref o0), .val (.int i1), .val (.int i2)] [(.int (2 : Int32)), (.ref o0)])) rfl (by rw [hml]; rfl) (argsL := [(.ref o0), (.int (2 : Int32))]) (rest := []) (lenOf pd_5_3 rfl) rfl (by show 2 * 0 + _ ≤ _; exact Nat.le_of_eq rfl) (hb hby d5_28) (fun _ _ => ⟨rfl, e0, (by decide : 0 + 0 ≤ _), (by decide : 0 + 0 ≤ _)⟩)
  dsimp only [Pt.U, Pt.locs, Pt.cells, Pt.slots] at X3 l3 y3 z3 st3 hQ3
  subst l3 y3 z3
  obtain ⟨rfl, N3q, e3⟩ := hQ3      -- what it returned, that it wrote nothing old, and the rest of your Q6
  have N3 := Fr.app N0 N3q
  refine ⟨T3, _, X3, e3, N3, fun target kt => ?_⟩
  show Steps p.tables e below (T0.setTop (mkF m 26 #[.val (.ref o0), .val (.int i1), .val (.int i2)] [])) _
  refine XS.aloadN X0.here hx rfl (hb hby d5_26) rfl rfl ?_
  show Steps p.tables e below (T0.setTop (mkF m 27 #[.val (.ref o0), .val (.int i1), .val (.int i2)] [(.ref o0)])) _
  refine XS.iconst X0.here hx rfl (hb hby d5_27) ?_
  show Steps p.tables e below (T0.setTop (mkF m 28 #[.val (.ref o0), .val (.int i1), .val (.int i2)] [(.int (2 : Int32)), (.ref o0)])) _
  refine st3 _ ?_
  show Steps p.tables e below (T3.setTop (mkF m 31 #[.val (.ref o0), .val (.int i1), .val (.int i2)] [(.int (own_att n f 2))])) _
  refine XS.iloadN X3.here hx rfl (hb hby d5_31) rfl ?_
  show Steps p.tables e below (T3.setTop (mkF m 32 #[.val (.ref o0), .val (.int i1), .val (.int i2)] [(.int i1), (.int (own_att n f 2))])) _
  refine XS.icmpNo X3.here hx rfl (hb hby d5_32) rfl (teq (hq : (own_att n f 2) = i1)).2 ?_
  show Steps p.tables e below (T3.setTop (mkF m 35 #[.val (.ref o0), .val (.int i1), .val (.int i2)] [])) _
  refine XS.iinc X3.here hx rfl (hb hby d5_35) rfl (l' := #[.val (.ref o0), .val (.int i1), .val (.int (i2 + (1 : Int32)))]) rfl ?_
  exact kt

set_option maxRecDepth 65536 in
set_option maxHeartbeats 40000000 in
theorem tn5_2t {p : Program} {l : Launch} {e : Env} {s : State} {m : MethodId} {args : Array Value} {below : List Frame} {meth : Method} {c : Code} {T0 : State} {locs : List Loc} {Z : State} {a0 : Array Value} {h0 : Heap} (o0 : Addr) (i1 : Int32) (s2 : Slot) (n : Nat) (f : Nat → Int32) (n0 : Nat)
    (X0 : Stand p l e ({ frames := 1, cells := 0, slots := 0, locals := 13 } : Room) s m args below meth c T0 locs 0 0) (hx : p.tables.exec = Jvm.exec) (hZ : Z.Warmed39 s.vm) (hw : ∀ d ∈ tables_1, d.before a0 Z = true) (hby : c.code = method_4_code) (hml : c.maxLocals = 3) (hown : s.vm.findClass "com/example/libpiecewise/libpiecewise/TransformationMonoidPreimagesPinLaw" = some m.cls) (e0 : T0.heap = h0) (Z0 : n0 ≤ h0.size) (N0 : Fr n0 locs) (hn : n ≤ 255) (V : own_arr Z h0 o0 n f) (hq : ¬ own_att n f 2 = i1) :
    ∃ (T' : State) (locs' : List Loc), Stand p l e ({ frames := 1, cells := 0, slots := 0, locals := 13 } : Room) s m args below meth c T' locs' 0 0 ∧ T'.heap = h0 ∧ Fr n0 locs' ∧
      ∀ target, Steps p.tables e below (T'.setTop (mkF m 38 #[.val (.ref o0), .val (.int i1), s2] [])) target → Steps p.tables e below (T0.setTop (mkF m 26 #[.val (.ref o0), .val (.int i1), s2] [])) target := by
  obtain ⟨_, _, ⟨T3, L3, k3, n3⟩, -, X3, ⟨Lc3, hQ3, l3, y3, z3⟩, st3⟩ := Jvm.LawKit.callS X0 hx (y := (⟨"com/example/libpiecewise/libpiecewise/TransformationMonoidPreimagesPinLaw", "at", "([II)I"⟩ : MethodName)) hown (mvT hZ (hw _ (List.mem_of_getElem? (i := 22) rfl))) (mvT hZ (hw _ (List.mem_of_getElem? (i := 23) rfl))) (mvT hZ (hw _ (List.mem_of_getElem? (i := 10) rfl))) (mvT hZ (hw _ (List.mem_of_getElem? (i := 24) rfl))) (by decide) (backOf (W := 0) (rm6 l Z a0 hw [] o0 2 n f h0 n0 Z0 (by decide) hn V) hZ (hw _ (List.mem_of_getElem? (i := 24) rfl)) (hw _ (List.mem_of_getElem? (i := 10) rfl)) (by decide) (by decide)) (g := (mkF m 28 #[.val (.ref o0), .val (.int i1), s2] [(.int (2 : Int32)), (.ref o0)])) rfl (by rw [hml]; rfl) (argsL := [(.ref o0), (.int (2 : Int32))]) (rest := []) (lenOf pd_5_3 rfl) rfl (by show 2 * 0 + _ ≤ _; exact Nat.le_of_eq rfl) (hb hby d5_28) (fun _ _ => ⟨rfl, e0, (by decide : 0 + 0 ≤ _), (by decide : 0 + 0 ≤ _)⟩)
  dsimp only [Pt.U, Pt.locs, Pt.cells, Pt.slots] at X3 l3 y3 z3 st3 hQ3
  subst l3 y3 z3
  obtain ⟨rfl, N3q, e3⟩ := hQ3      -- what it returned, that it wrote nothing old, and the rest of your Q6
  have N3 := Fr.app N0 N3q
  refine ⟨T3, _, X3, e3, N3, fun target kt => ?_⟩
  show Steps p.tables e below (T0.setTop (mkF m 26 #[.val (.ref o0), .val (.int i1), s2] [])) _
  refine XS.aloadN X0.here hx rfl (hb hby d5_26) rfl rfl ?_
  show Steps p.tables e below (T0.setTop (mkF m 27 #[.val (.ref o0), .val (.int i1), s2] [(.ref o0)])) _
  refine XS.iconst X0.here hx rfl (hb hby d5_27) ?_
  show Steps p.tables e below (T0.setTop (mkF m 28 #[.val (.ref o0), .val (.int i1), s2] [(.int (2 : Int32)), (.ref o0)])) _
  refine st3 _ ?_
  show Steps p.tables e below (T3.setTop (mkF m 31 #[.val (.ref o0), .val (.int i1), s2] [(.int (own_att n f 2))])) _
  refine XS.iloadN X3.here hx rfl (hb hby d5_31) rfl ?_
  show Steps p.tables e below (T3.setTop (mkF m 32 #[.val (.ref o0), .val (.int i1), s2] [(.int i1), (.int (own_att n f 2))])) _
  refine XS.icmpYes X3.here hx rfl (pc0 := 32) (pc' := 38) rfl (hb hby d5_32) rfl (feq (hq : ¬ ((own_att n f 2) = i1))).2 (by decide) (by decide) ?_
  exact kt

theorem cs5_2 {p : Program} {l : Launch} {e : Env} {s : State} {m : MethodId} {args : Array Value} {below : List Frame} {meth : Method} {c : Code} {T0 : State} {locs : List Loc} {Z : State} {a0 : Array Value} {h0 : Heap} (o0 : Addr) (p' n : Nat) (tv : Nat → Nat) (S : Nat) (n0 : Nat)
    (X0 : Stand p l e ({ frames := 1, cells := 0, slots := 0, locals := 13 } : Room) s m args below meth c T0 locs 0 0) (hx : p.tables.exec = Jvm.exec) (hZ : Z.Warmed39 s.vm) (hw : ∀ d ∈ tables_1, d.before a0 Z = true) (hby : c.code = method_4_code) (hml : c.maxLocals = 3) (hown : s.vm.findClass "com/example/libpiecewise/libpiecewise/TransformationMonoidPreimagesPinLaw" = some m.cls) (e0 : T0.heap = h0) (Z0 : n0 ≤ h0.size) (N0 : Fr n0 locs) (hn : n ≤ 4) (hp : p' ≤ 4) (htv : ∀ j, j < n → tv j < n) (V : own_arr Z h0 o0 n (own_ft tv)) :
    ∃ (T' : State) (locs' : List Loc), Stand p l e ({ frames := 1, cells := 0, slots := 0, locals := 13 } : Room) s m args below meth c T' locs' 0 0 ∧ T'.heap = h0 ∧ Fr n0 locs' ∧
      ∀ target, Steps p.tables e below (T'.setTop (mkF m 38 #[.val (.ref o0), .val (.int (Int32.ofNat p')), .val (.int (Int32.ofNat (S + own_hit tv n 2 p')))] [])) target → Steps p.tables e below (T0.setTop (mkF m 26 #[.val (.ref o0), .val (.int (Int32.ofNat p')), .val (.int (Int32.ofNat S))] [])) target := by
  have hk : own_att n (own_ft tv) 2 = Int32.ofNat p' ↔ (2 < n ∧ tv 2 = p') := by
    unfold own_att
    by_cases h : 2 < n
    · rw [if_pos h]
      have h1 := htv 2 h
      rw [show own_ft tv 2 = Int32.ofNat (tv 2) from rfl, own_eq_iff (by omega) (by omega)]
      exact ⟨fun q => ⟨h, q⟩, fun q => q.2⟩
    · rw [if_neg h]
      refine ⟨fun q => ?_, fun q => absurd q.1 h⟩
      have := congrArg Int32.toInt q
      rw [own_i32 (by omega)] at this
      have m1 : (-1 : Int32).toInt = -1 := by decide
      omega
  by_cases h : own_att n (own_ft tv) 2 = Int32.ofNat p'
  · have q : own_hit tv n 2 p' = 1 := by unfold own_hit; rw [if_pos (hk.1 h).1, if_pos (hk.1 h).2]
    obtain ⟨T', locs', X', e', N', st⟩ := tn5_2f o0 (Int32.ofNat p') (Int32.ofNat S) n (own_ft tv) n0 X0 hx hZ hw hby hml hown e0 Z0 N0 (by omega) V h
    refine ⟨T', locs', X', e', N', fun target hh => st target ?_⟩
    rw [q] at hh
    rw [own_one]; exact hh
  · have q : own_hit tv n 2 p' = 0 := by
      unfold own_hit
      by_cases h1 : 2 < n
      · rw [if_pos h1, if_neg (fun r => h (hk.2 ⟨h1, r⟩))]
      · rw [if_neg h1]
    obtain ⟨T', locs', X', e', N', st⟩ := tn5_2t o0 (Int32.ofNat p') (.val (.int (Int32.ofNat S))) n (own_ft tv) n0 X0 hx hZ hw hby hml hown e0 Z0 N0 (by omega) V h
    refine ⟨T', locs', X', e', N', fun target hh => st target ?_⟩
    rw [q] at hh
    exact hh
set_option maxRecDepth 65536 in
set_option maxHeartbeats 40000000 in
theorem tn5_3f {p : Program} {l : Launch} {e : Env} {s : State} {m : MethodId} {args : Array Value} {below : List Frame} {meth : Method} {c : Code} {T0 : State} {locs : List Loc} {Z : State} {a0 : Array Value} {h0 : Heap} (o0 : Addr) (i1 : Int32) (i2 : Int32) (n : Nat) (f : Nat → Int32) (n0 : Nat)
    (X0 : Stand p l e ({ frames := 1, cells := 0, slots := 0, locals := 13 } : Room) s m args below meth c T0 locs 0 0) (hx : p.tables.exec = Jvm.exec) (hZ : Z.Warmed39 s.vm) (hw : ∀ d ∈ tables_1, d.before a0 Z = true) (hby : c.code = method_4_code) (hml : c.maxLocals = 3) (hown : s.vm.findClass "com/example/libpiecewise/libpiecewise/TransformationMonoidPreimagesPinLaw" = some m.cls) (e0 : T0.heap = h0) (Z0 : n0 ≤ h0.size) (N0 : Fr n0 locs) (hn : n ≤ 255) (V : own_arr Z h0 o0 n f) (hq : own_att n f 3 = i1) :
    ∃ (T' : State) (locs' : List Loc), Stand p l e ({ frames := 1, cells := 0, slots := 0, locals := 13 } : Room) s m args below meth c T' locs' 0 0 ∧ T'.heap = h0 ∧ Fr n0 locs' ∧
      ∀ target, Steps p.tables e below (T'.setTop (mkF m 50 #[.val (.ref o0), .val (.int i1), .val (.int (i2 + (1 : Int32)))] [])) target → Steps p.tables e below (T0.setTop (mkF m 38 #[.val (.ref o0), .val (.int i1), .val (.int i2)] [])) target := by
  obtain ⟨_, _, ⟨T3, L3, k3, n3⟩, -, X3, ⟨Lc3, hQ3, l3, y3, z3⟩, st3⟩ := Jvm.LawKit.callS X0 hx (y := (⟨"com/example/libpiecewise/libpiecewise/TransformationMonoidPreimagesPinLaw", "at", "([II)I"⟩ : MethodName)) hown (mvT hZ (hw _ (List.mem_of_getElem? (i := 22) rfl))) (mvT hZ (hw _ (List.mem_of_getElem? (i := 23) rfl))) (mvT hZ (hw _ (List.mem_of_getElem? (i := 10) rfl))) (mvT hZ (hw _ (List.mem_of_getElem? (i := 24) rfl))) (by decide) (backOf (W := 0) (rm6 l Z a0 hw [] o0 3 n f h0 n0 Z0 (by decide) hn V) hZ (hw _ (List.mem_of_getElem? (i := 24) rfl)) (hw _ (List.mem_of_getElem? (i := 10) rfl)) (by decide) (by decide)) (g := (mkF m 40 #[.val (.ref o0), .val (.int i1), .val (.int i2)] [(.int (3 : Int32)), (.ref o0)])) rfl (by rw [hml]; rfl) (argsL := [(.ref o0), (.int (3 : Int32))]) (rest := []) (lenOf pd_5_3 rfl) rfl (by show 2 * 0 + _ ≤ _; exact Nat.le_of_eq rfl) (hb hby d5_40) (fun _ _ => ⟨rfl, e0, (by decide : 0 + 0 ≤ _), (by decide : 0 + 0 ≤ _)⟩)
  dsimp only [Pt.U, Pt.locs, Pt.cells, Pt.slots] at X3 l3 y3 z3 st3 hQ3
  subst l3 y3 z3
  obtain ⟨rfl, N3q, e3⟩ := hQ3      -- what it returned, that it wrote nothing old, and the rest of your Q6
  have N3 := Fr.app N0 N3q
  refine ⟨T3, _, X3, e3, N3, fun target kt => ?_⟩
  show Steps p.tables e below (T0.setTop (mkF m 38 #[.val (.ref o0), .val (.int i1), .val (.int i2)] [])) _
  refine XS.aloadN X0.here hx rfl (hb hby d5_38) rfl rfl ?_
  show Steps p.tables e below (T0.setTop (mkF m 39 #[.val (.ref o0), .val (.int i1), .val (.int i2)] [(.ref o0)])) _
  refine XS.iconst X0.here hx rfl (hb hby d5_39) ?_
  show Steps p.tables e below (T0.setTop (mkF m 40 #[.val (.ref o0), .val (.int i1), .val (.int i2)] [(.int (3 : Int32)), (.ref o0)])) _
  refine st3 _ ?_
  show Steps p.tables e below (T3.setTop (mkF m 43 #[.val (.ref o0), .val (.int i1), .val (.int i2)] [(.int (own_att n f 3))])) _
  refine XS.iloadN X3.here hx rfl (hb hby d5_43) rfl ?_
  show Steps p.tables e below (T3.setTop (mkF m 44 #[.val (.ref o0), .val (.int i1), .val (.int i2)] [(.int i1), (.int (own_att n f 3))])) _
  refine XS.icmpNo X3.here hx rfl (hb hby d5_44) rfl (teq (hq : (own_att n f 3) = i1)).2 ?_
  show Steps p.tables e below (T3.setTop (mkF m 47 #[.val (.ref o0), .val (.int i1), .val (.int i2)] [])) _
  refine XS.iinc X3.here hx rfl (hb hby d5_47) rfl (l' := #[.val (.ref o0), .val (.int i1), .val (.int (i2 + (1 : Int32)))]) rfl ?_
  exact kt

set_option maxRecDepth 65536 in
set_option maxHeartbeats 40000000 in
theorem tn5_3t {p : Program} {l : Launch} {e : Env} {s : State} {m : MethodId} {args : Array Value} {below : List Frame} {meth : Method} {c : Code} {T0 : State} {locs : List Loc} {Z : State} {a0 : Array Value} {h0 : Heap} (o0 : Addr) (i1 : Int32) (s2 : Slot) (n : Nat) (f : Nat → Int32) (n0 : Nat)
    (X0 : Stand p l e ({ frames := 1, cells := 0, slots := 0, locals := 13 } : Room) s m args below meth c T0 locs 0 0) (hx : p.tables.exec = Jvm.exec) (hZ : Z.Warmed39 s.vm) (hw : ∀ d ∈ tables_1, d.before a0 Z = true) (hby : c.code = method_4_code) (hml : c.maxLocals = 3) (hown : s.vm.findClass "com/example/libpiecewise/libpiecewise/TransformationMonoidPreimagesPinLaw" = some m.cls) (e0 : T0.heap = h0) (Z0 : n0 ≤ h0.size) (N0 : Fr n0 locs) (hn : n ≤ 255) (V : own_arr Z h0 o0 n f) (hq : ¬ own_att n f 3 = i1) :
    ∃ (T' : State) (locs' : List Loc), Stand p l e ({ frames := 1, cells := 0, slots := 0, locals := 13 } : Room) s m args below meth c T' locs' 0 0 ∧ T'.heap = h0 ∧ Fr n0 locs' ∧
      ∀ target, Steps p.tables e below (T'.setTop (mkF m 50 #[.val (.ref o0), .val (.int i1), s2] [])) target → Steps p.tables e below (T0.setTop (mkF m 38 #[.val (.ref o0), .val (.int i1), s2] [])) target := by
  obtain ⟨_, _, ⟨T3, L3, k3, n3⟩, -, X3, ⟨Lc3, hQ3, l3, y3, z3⟩, st3⟩ := Jvm.LawKit.callS X0 hx (y := (⟨"com/example/libpiecewise/libpiecewise/TransformationMonoidPreimagesPinLaw", "at", "([II)I"⟩ : MethodName)) hown (mvT hZ (hw _ (List.mem_of_getElem? (i := 22) rfl))) (mvT hZ (hw _ (List.mem_of_getElem? (i := 23) rfl))) (mvT hZ (hw _ (List.mem_of_getElem? (i := 10) rfl))) (mvT hZ (hw _ (List.mem_of_getElem? (i := 24) rfl))) (by decide) (backOf (W := 0) (rm6 l Z a0 hw [] o0 3 n f h0 n0 Z0 (by decide) hn V) hZ (hw _ (List.mem_of_getElem? (i := 24) rfl)) (hw _ (List.mem_of_getElem? (i := 10) rfl)) (by decide) (by decide)) (g := (mkF m 40 #[.val (.ref o0), .val (.int i1), s2] [(.int (3 : Int32)), (.ref o0)])) rfl (by rw [hml]; rfl) (argsL := [(.ref o0), (.int (3 : Int32))]) (rest := []) (lenOf pd_5_3 rfl) rfl (by show 2 * 0 + _ ≤ _; exact Nat.le_of_eq rfl) (hb hby d5_40) (fun _ _ => ⟨rfl, e0, (by decide : 0 + 0 ≤ _), (by decide : 0 + 0 ≤ _)⟩)
  dsimp only [Pt.U, Pt.locs, Pt.cells, Pt.slots] at X3 l3 y3 z3 st3 hQ3
  subst l3 y3 z3
  obtain ⟨rfl, N3q, e3⟩ := hQ3      -- what it returned, that it wrote nothing old, and the rest of your Q6
  have N3 := Fr.app N0 N3q
  refine ⟨T3, _, X3, e3, N3, fun target kt => ?_⟩
  show Steps p.tables e below (T0.setTop (mkF m 38 #[.val (.ref o0), .val (.int i1), s2] [])) _
  refine XS.aloadN X0.here hx rfl (hb hby d5_38) rfl rfl ?_
  show Steps p.tables e below (T0.setTop (mkF m 39 #[.val (.ref o0), .val (.int i1), s2] [(.ref o0)])) _
  refine XS.iconst X0.here hx rfl (hb hby d5_39) ?_
  show Steps p.tables e below (T0.setTop (mkF m 40 #[.val (.ref o0), .val (.int i1), s2] [(.int (3 : Int32)), (.ref o0)])) _
  refine st3 _ ?_
  show Steps p.tables e below (T3.setTop (mkF m 43 #[.val (.ref o0), .val (.int i1), s2] [(.int (own_att n f 3))])) _
  refine XS.iloadN X3.here hx rfl (hb hby d5_43) rfl ?_
  show Steps p.tables e below (T3.setTop (mkF m 44 #[.val (.ref o0), .val (.int i1), s2] [(.int i1), (.int (own_att n f 3))])) _
  refine XS.icmpYes X3.here hx rfl (pc0 := 44) (pc' := 50) rfl (hb hby d5_44) rfl (feq (hq : ¬ ((own_att n f 3) = i1))).2 (by decide) (by decide) ?_
  exact kt

theorem cs5_3 {p : Program} {l : Launch} {e : Env} {s : State} {m : MethodId} {args : Array Value} {below : List Frame} {meth : Method} {c : Code} {T0 : State} {locs : List Loc} {Z : State} {a0 : Array Value} {h0 : Heap} (o0 : Addr) (p' n : Nat) (tv : Nat → Nat) (S : Nat) (n0 : Nat)
    (X0 : Stand p l e ({ frames := 1, cells := 0, slots := 0, locals := 13 } : Room) s m args below meth c T0 locs 0 0) (hx : p.tables.exec = Jvm.exec) (hZ : Z.Warmed39 s.vm) (hw : ∀ d ∈ tables_1, d.before a0 Z = true) (hby : c.code = method_4_code) (hml : c.maxLocals = 3) (hown : s.vm.findClass "com/example/libpiecewise/libpiecewise/TransformationMonoidPreimagesPinLaw" = some m.cls) (e0 : T0.heap = h0) (Z0 : n0 ≤ h0.size) (N0 : Fr n0 locs) (hn : n ≤ 4) (hp : p' ≤ 4) (htv : ∀ j, j < n → tv j < n) (V : own_arr Z h0 o0 n (own_ft tv)) :
    ∃ (T' : State) (locs' : List Loc), Stand p l e ({ frames := 1, cells := 0, slots := 0, locals := 13 } : Room) s m args below meth c T' locs' 0 0 ∧ T'.heap = h0 ∧ Fr n0 locs' ∧
      ∀ target, Steps p.tables e below (T'.setTop (mkF m 50 #[.val (.ref o0), .val (.int (Int32.ofNat p')), .val (.int (Int32.ofNat (S + own_hit tv n 3 p')))] [])) target → Steps p.tables e below (T0.setTop (mkF m 38 #[.val (.ref o0), .val (.int (Int32.ofNat p')), .val (.int (Int32.ofNat S))] [])) target := by
  have hk : own_att n (own_ft tv) 3 = Int32.ofNat p' ↔ (3 < n ∧ tv 3 = p') := by
    unfold own_att
    by_cases h : 3 < n
    · rw [if_pos h]
      have h1 := htv 3 h
      rw [show own_ft tv 3 = Int32.ofNat (tv 3) from rfl, own_eq_iff (by omega) (by omega)]
      exact ⟨fun q => ⟨h, q⟩, fun q => q.2⟩
    · rw [if_neg h]
      refine ⟨fun q => ?_, fun q => absurd q.1 h⟩
      have := congrArg Int32.toInt q
      rw [own_i32 (by omega)] at this
      have m1 : (-1 : Int32).toInt = -1 := by decide
      omega
  by_cases h : own_att n (own_ft tv) 3 = Int32.ofNat p'
  · have q : own_hit tv n 3 p' = 1 := by unfold own_hit; rw [if_pos (hk.1 h).1, if_pos (hk.1 h).2]
    obtain ⟨T', locs', X', e', N', st⟩ := tn5_3f o0 (Int32.ofNat p') (Int32.ofNat S) n (own_ft tv) n0 X0 hx hZ hw hby hml hown e0 Z0 N0 (by omega) V h
    refine ⟨T', locs', X', e', N', fun target hh => st target ?_⟩
    rw [q] at hh
    rw [own_one]; exact hh
  · have q : own_hit tv n 3 p' = 0 := by
      unfold own_hit
      by_cases h1 : 3 < n
      · rw [if_pos h1, if_neg (fun r => h (hk.2 ⟨h1, r⟩))]
      · rw [if_neg h1]
    obtain ⟨T', locs', X', e', N', st⟩ := tn5_3t o0 (Int32.ofNat p') (.val (.int (Int32.ofNat S))) n (own_ft tv) n0 X0 hx hZ hw hby hml hown e0 Z0 N0 (by omega) V h
    refine ⟨T', locs', X', e', N', fun target hh => st target ?_⟩
    rw [q] at hh
    exact hh
def Q5 (Z : State) (w : Int32) (h0 : Heap) (n0 : Nat) (v : Option Value) (h : Heap) (L : List Loc) : Prop := v = some (.int w) ∧ Fr n0 L ∧ h = h0
set_option maxRecDepth 65536 in
set_option maxHeartbeats 40000000 in
theorem rm5 (l : Launch) (Z : State) (a0 : Array Value) (hw : ∀ d ∈ tables_1, d.before a0 Z = true) (ws : List Jvm.Cond) (a1 : Addr) (p' n : Nat) (tv : Nat → Nat) (h0 : Heap) (n0 : Nat) (Z0 : n0 ≤ h0.size) (hn : n ≤ 4) (hp : p' ≤ 4) (htv : ∀ j, j < n → tv j < n) (V : own_arr Z h0 a1 n (own_ft tv)) :
    MetFree l (⟨"com/example/libpiecewise/libpiecewise/TransformationMonoidPreimagesPinLaw", "count", "([II)I"⟩ : MethodName) (head1 (Jvm.Cond.code (⟨"com/example/libpiecewise/libpiecewise/TransformationMonoidPreimagesPinLaw", "count", "([II)I"⟩ : MethodName) method_4_code 3 (some .int) :: ws) ({ frames := 1, cells := 0, slots := 0, locals := 13 } : Room)) (fun a U => a = #[(.ref a1), (.int (Int32.ofNat p'))] ∧ Z.Warmed39 U.vm ∧ U.heap = h0) (fun _ _ _ _ _ => True) (fun _ U o U' => ∃ v L, o = .returned v ∧ Q5 Z (Int32.ofNat (own_cnt tv n p')) h0 n0 v U'.heap L ∧ FrameEnd U o U' L ({ frames := 1, cells := 0, slots := 0, locals := 13 } : Room).cells ({ frames := 1, cells := 0, slots := 0, locals := 13 } : Room).slots) := by
  refine MetFree.of_bodySF (plainFor_of_name pn_5) hisR ?_
  intro p e s m args below meth c s₁ Bd hml0 hP hK
  obtain ⟨rfl, hZ, hh⟩ := hP
  have hx := Bd.exec
  have hby := Bd.bytes
  have hml : c.maxLocals = 3 := hml0
  have hown : s.vm.findClass "com/example/libpiecewise/libpiecewise/TransformationMonoidPreimagesPinLaw" = some m.cls := findClass_of_methodNamed Bd.named
  have hnm := (name_of_methodNamed Bd.named Bd.method).1
  have X0 : Stand p l e ({ frames := 1, cells := 0, slots := 0, locals := 13 } : Room) s m #[(.ref a1), (.int (Int32.ofNat p'))] below meth c s₁ [] 0 0 := Stand.of_body Bd
  have e0 : s₁.heap = h0 := by rw [← hh, Bd.state]; rfl
  have N0 := Fr.nil n0
  have pre0 : ∀ t, Steps p.tables e below (s₁.setTop (mkF m 0 #[.val (.ref a1), .val (.int (Int32.ofNat p')), .unset] [])) t → Steps p.tables e below (s₁.setTop (entryFrame m #[(.ref a1), (.int (Int32.ofNat p'))] 3)) t := fun t k => castTop (ef_5 m a1 (Int32.ofNat p')) k
  obtain ⟨T1, L1, X1, e1, N1, st1⟩ := cs5_0 a1 p' n tv  n0 X0 hx hZ hw hby hml hown e0 Z0 N0 hn hp htv V
  obtain ⟨T2, L2, X2, e2, N2, st2⟩ := cs5_1 a1 p' n tv (own_hit tv n 0 p') n0 X1 hx hZ hw hby hml hown e1 Z0 N1 hn hp htv V
  obtain ⟨T3, L3, X3, e3, N3, st3⟩ := cs5_2 a1 p' n tv (own_hit tv n 0 p' + own_hit tv n 1 p') n0 X2 hx hZ hw hby hml hown e2 Z0 N2 hn hp htv V
  obtain ⟨T4, L4, X4, e4, N4, st4⟩ := cs5_3 a1 p' n tv (own_hit tv n 0 p' + own_hit tv n 1 p' + own_hit tv n 2 p') n0 X3 hx hZ hw hby hml hown e3 Z0 N3 hn hp htv V
  rw [own_cnt4 tv n p' hn] at st4
  obtain ⟨fs, hr, hrun, hended, hW, hsame⟩ := X4.leave (v := some (.int (Int32.ofNat (own_cnt tv n p')))) (fun h => by rw [Bd.returns] at h; cases h)
  refine ⟨_, _, pre0 _ ?_, hrun, hended, _, _, rfl, ?_, ⟨_, rfl⟩, hW, hsame.mono (by decide) (by decide)⟩
  · refine st1 _ (st2 _ (st3 _ (st4 _ ?_)))
    show Steps p.tables e below (T4.setTop (mkF m 50 #[.val (.ref a1), .val (.int (Int32.ofNat p')), .val (.int (Int32.ofNat (own_cnt tv n p')))] [])) _
    refine XS.iloadN X4.here hx rfl (hb hby d5_50) rfl ?_
    show Steps p.tables e below (T4.setTop (mkF m 51 #[.val (.ref a1), .val (.int (Int32.ofNat p')), .val (.int (Int32.ofNat (own_cnt tv n p')))] [(.int (Int32.ofNat (own_cnt tv n p')))])) _
    exact retI X4 hx Bd.returns (hb hby d5_51) hr
  · show Q5 Z _ h0 n0 _ T4.heap _
    rw [e4]
    exact ⟨rfl, N4, rfl⟩
theorem d7_0 : decode method_5_code 0 = .ok (.aload_n 0, 1) := by decide +kernel
theorem d7_1 : decode method_5_code 1 = .ok (.iload_n 1, 1) := by decide +kernel
theorem d7_2 : decode method_5_code 2 = .ok (.iaload, 1) := by decide +kernel
theorem d7_3 : decode method_5_code 3 = .ok (.istore_n 2, 1) := by decide +kernel
theorem d7_4 : decode method_5_code 4 = .ok (.iconst 0, 1) := by decide +kernel
theorem d7_5 : decode method_5_code 5 = .ok (.istore_n 3, 1) := by decide +kernel
theorem os7_3 {z0 : Value} {z1 : Value} {s2 : Slot} {s3 : Slot} {v : Int32} (h : One s2) : storeLocals #[.val z0, .val z1, s2, s3] 2 (.int v) = some #[.val z0, .val z1, .val (.int v), s3] := by
  rcases h with rfl | ⟨w, rfl, hw⟩
  · rfl
  · cases w <;> first | rfl | (simp [Value.category] at hw)
theorem os7_5 {z0 : Value} {z1 : Value} {z2 : Value} {s3 : Slot} {v : Int32} (h : One s3) : storeLocals #[.val z0, .val z1, .val z2, s3] 3 (.int v) = some #[.val z0, .val z1, .val z2, .val (.int v)] := by
  rcases h with rfl | ⟨w, rfl, hw⟩
  · rfl
  · cases w <;> first | rfl | (simp [Value.category] at hw)
set_option maxRecDepth 65536 in
set_option maxHeartbeats 40000000 in
theorem tn7_0_6 {p : Program} {l : Launch} {e : Env} {R : Room} {s : State} {m : MethodId} {args : Array Value} {below : List Frame} {meth : Method} {c : Code} {T0 : State} {locs : List Loc} {cells slots : Nat} {Z : State} {a0 : Array Value} {h0 : Heap} (o0 : Addr) (i1 : Int32) (s2 : Slot) (s3 : Slot) (w3 : Int32) (cl_o0 : Cell)
    (X0 : Stand p l e R s m args below meth c T0 locs cells slots) (hx : p.tables.exec = Jvm.exec) (hZ : Z.Warmed39 s.vm) (hw : ∀ d ∈ tables_1, d.before a0 Z = true) (hby : c.code = method_5_code) (hml : c.maxLocals = 4) (hown : s.vm.findClass "com/example/libpiecewise/libpiecewise/TransformationMonoidPreimagesPinLaw" = some m.cls) (e0 : T0.heap = h0) (Ar_o0 : Arr Z h0 o0 cl_o0 .int) (hin2 : ¬ (i1 < 0 ∨ cl_o0.slots.size ≤ (i1).toNatClampNeg)) (hat2 : cl_o0.slots[(i1).toNatClampNeg]? = some (.int w3)) (hs2 : One s2) (hs3 : One s3) :
    ∃ (T' : State), Stand p l e R s m args below meth c T' locs cells slots ∧ T'.heap = h0 ∧
      ∀ target, Steps p.tables e below (T'.setTop (mkF m 6 #[.val (.ref o0), .val (.int i1), .val (.int w3), .val (.int (0 : Int32))] [])) target → Steps p.tables e below (T0.setTop (mkF m 0 #[.val (.ref o0), .val (.int i1), s2, s3] [])) target := by

  refine ⟨T0, X0, e0, fun target kt => ?_⟩
  show Steps p.tables e below (T0.setTop (mkF m 0 #[.val (.ref o0), .val (.int i1), s2, s3] [])) _
  refine XS.aloadN X0.here hx rfl (hb hby d7_0) rfl rfl ?_
  show Steps p.tables e below (T0.setTop (mkF m 1 #[.val (.ref o0), .val (.int i1), s2, s3] [(.ref o0)])) _
  refine XS.iloadN X0.here hx rfl (hb hby d7_1) rfl ?_
  show Steps p.tables e below (T0.setTop (mkF m 2 #[.val (.ref o0), .val (.int i1), s2, s3] [(.int i1), (.ref o0)])) _
  refine X0.iaload hx (j := i1) (v := (.int w3)) (by rw [e0]; exact Ar_o0.1) (State.isArrayOf_alike hZ.alike Ar_o0.2.1) Ar_o0.2.2 hin2 hat2 (g := (mkF m 2 #[.val (.ref o0), .val (.int i1), s2, s3] [(.int i1), (.ref o0)])) rfl rfl (hb hby d7_2) _ ?_
  show Steps p.tables e below (T0.setTop (mkF m 3 #[.val (.ref o0), .val (.int i1), s2, s3] [(.int w3)])) _
  refine XS.istoreN X0.here hx rfl (hb hby d7_3) rfl (l' := #[.val (.ref o0), .val (.int i1), .val (.int w3), s3]) (os7_3 hs2) ?_
  show Steps p.tables e below (T0.setTop (mkF m 4 #[.val (.ref o0), .val (.int i1), .val (.int w3), s3] [])) _
  refine XS.iconst X0.here hx rfl (hb hby d7_4) ?_
  show Steps p.tables e below (T0.setTop (mkF m 5 #[.val (.ref o0), .val (.int i1), .val (.int w3), s3] [(.int (0 : Int32))])) _
  refine XS.istoreN X0.here hx rfl (hb hby d7_5) rfl (l' := #[.val (.ref o0), .val (.int i1), .val (.int w3), .val (.int (0 : Int32))]) (os7_5 hs3) ?_
  exact kt

theorem d7_6 : decode method_5_code 6 = .ok (.iload_n 1, 1) := by decide +kernel
theorem d7_7 : decode method_5_code 7 = .ok (.ifCond .le 13, 3) := by decide +kernel
theorem d7_20 : decode method_5_code 20 = .ok (.iload_n 1, 1) := by decide +kernel
theorem d7_21 : decode method_5_code 21 = .ok (.iconst 1, 1) := by decide +kernel
theorem d7_22 : decode method_5_code 22 = .ok (.if_icmp .le 13, 3) := by decide +kernel
theorem d7_35 : decode method_5_code 35 = .ok (.iload_n 1, 1) := by decide +kernel
theorem d7_36 : decode method_5_code 36 = .ok (.iconst 2, 1) := by decide +kernel
theorem d7_37 : decode method_5_code 37 = .ok (.if_icmp .le 13, 3) := by decide +kernel
theorem d7_50 : decode method_5_code 50 = .ok (.iload_n 3, 1) := by decide +kernel
theorem d7_51 : decode method_5_code 51 = .ok (.ireturn, 1) := by decide +kernel
theorem pn_7 : plainName "com/example/libpiecewise/libpiecewise/TransformationMonoidPreimagesPinLaw" = true := by first | (simp [plainName, overriddenIn]; done) | decide +kernel
theorem ef_7 (m : MethodId) (x0 : Addr) (x1 : Int32) : entryFrame m #[(.ref x0), (.int x1)] 4 = mkF m 0 #[.val (.ref x0), .val (.int x1), .unset, .unset] [] := by first | (simp [entryFrame, mkF, argsToLocals, Value.category]; done) | rfl
theorem d7_10 : decode method_5_code 10 = .ok (.aload_n 0, 1) := by decide +kernel
theorem d7_11 : decode method_5_code 11 = .ok (.iconst 0, 1) := by decide +kernel
theorem d7_12 : decode method_5_code 12 = .ok (.iaload, 1) := by decide +kernel
theorem d7_13 : decode method_5_code 13 = .ok (.iload_n 2, 1) := by decide +kernel
theorem d7_14 : decode method_5_code 14 = .ok (.if_icmp .ne 6, 3) := by decide +kernel
theorem d7_17 : decode method_5_code 17 = .ok (.iinc 3 1, 3) := by decide +kernel
set_option maxRecDepth 65536 in
set_option maxHeartbeats 40000000 in
theorem tn7_0ff {p : Program} {l : Launch} {e : Env} {R : Room} {s : State} {m : MethodId} {args : Array Value} {below : List Frame} {meth : Method} {c : Code} {T0 : State} {locs : List Loc} {cells slots : Nat} {Z : State} {a0 : Array Value} {h0 : Heap} (o0 : Addr) (i1 : Int32) (i2 : Int32) (i3 : Int32) (w3 : Int32) (cl_o0 : Cell)
    (X0 : Stand p l e R s m args below meth c T0 locs cells slots) (hx : p.tables.exec = Jvm.exec) (hZ : Z.Warmed39 s.vm) (hw : ∀ d ∈ tables_1, d.before a0 Z = true) (hby : c.code = method_5_code) (hml : c.maxLocals = 4) (hown : s.vm.findClass "com/example/libpiecewise/libpiecewise/TransformationMonoidPreimagesPinLaw" = some m.cls) (e0 : T0.heap = h0) (Ar_o0 : Arr Z h0 o0 cl_o0 .int) (hin12 : ¬ ((0 : Int32) < 0 ∨ cl_o0.slots.size ≤ ((0 : Int32)).toNatClampNeg)) (hat12 : cl_o0.slots[((0 : Int32)).toNatClampNeg]? = some (.int w3)) (hc7 : (0 : Int32) < i1) (hc14 : w3 = i2) :
    ∃ (T' : State), Stand p l e R s m args below meth c T' locs cells slots ∧ T'.heap = h0 ∧
      ∀ target, Steps p.tables e below (T'.setTop (mkF m 20 #[.val (.ref o0), .val (.int i1), .val (.int i2), .val (.int (i3 + (1 : Int32)))] [])) target → Steps p.tables e below (T0.setTop (mkF m 6 #[.val (.ref o0), .val (.int i1), .val (.int i2), .val (.int i3)] [])) target := by

  refine ⟨T0, X0, e0, fun target kt => ?_⟩
  show Steps p.tables e below (T0.setTop (mkF m 6 #[.val (.ref o0), .val (.int i1), .val (.int i2), .val (.int i3)] [])) _
  refine XS.iloadN X0.here hx rfl (hb hby d7_6) rfl ?_
  show Steps p.tables e below (T0.setTop (mkF m 7 #[.val (.ref o0), .val (.int i1), .val (.int i2), .val (.int i3)] [(.int i1)])) _
  refine XS.ifNo X0.here hx rfl (hb hby d7_7) rfl ((if0 _ _).trans (tlt hc7).2.2.2) ?_
  show Steps p.tables e below (T0.setTop (mkF m 10 #[.val (.ref o0), .val (.int i1), .val (.int i2), .val (.int i3)] [])) _
  refine XS.aloadN X0.here hx rfl (hb hby d7_10) rfl rfl ?_
  show Steps p.tables e below (T0.setTop (mkF m 11 #[.val (.ref o0), .val (.int i1), .val (.int i2), .val (.int i3)] [(.ref o0)])) _
  refine XS.iconst X0.here hx rfl (hb hby d7_11) ?_
  show Steps p.tables e below (T0.setTop (mkF m 12 #[.val (.ref o0), .val (.int i1), .val (.int i2), .val (.int i3)] [(.int (0 : Int32)), (.ref o0)])) _
  refine X0.iaload hx (j := (0 : Int32)) (v := (.int w3)) (by rw [e0]; exact Ar_o0.1) (State.isArrayOf_alike hZ.alike Ar_o0.2.1) Ar_o0.2.2 hin12 hat12 (g := (mkF m 12 #[.val (.ref o0), .val (.int i1), .val (.int i2), .val (.int i3)] [(.int (0 : Int32)), (.ref o0)])) rfl rfl (hb hby d7_12) _ ?_
  show Steps p.tables e below (T0.setTop (mkF m 13 #[.val (.ref o0), .val (.int i1), .val (.int i2), .val (.int i3)] [(.int w3)])) _
  refine XS.iloadN X0.here hx rfl (hb hby d7_13) rfl ?_
  show Steps p.tables e below (T0.setTop (mkF m 14 #[.val (.ref o0), .val (.int i1), .val (.int i2), .val (.int i3)] [(.int i2), (.int w3)])) _
  refine XS.icmpNo X0.here hx rfl (hb hby d7_14) rfl (teq hc14).2 ?_
  show Steps p.tables e below (T0.setTop (mkF m 17 #[.val (.ref o0), .val (.int i1), .val (.int i2), .val (.int i3)] [])) _
  refine XS.iinc X0.here hx rfl (hb hby d7_17) rfl (l' := #[.val (.ref o0), .val (.int i1), .val (.int i2), .val (.int (i3 + (1 : Int32)))]) rfl ?_
  exact kt

set_option maxRecDepth 65536 in
set_option maxHeartbeats 40000000 in
theorem tn7_0ft {p : Program} {l : Launch} {e : Env} {R : Room} {s : State} {m : MethodId} {args : Array Value} {below : List Frame} {meth : Method} {c : Code} {T0 : State} {locs : List Loc} {cells slots : Nat} {Z : State} {a0 : Array Value} {h0 : Heap} (o0 : Addr) (i1 : Int32) (i2 : Int32) (s3 : Slot) (w3 : Int32) (cl_o0 : Cell)
    (X0 : Stand p l e R s m args below meth c T0 locs cells slots) (hx : p.tables.exec = Jvm.exec) (hZ : Z.Warmed39 s.vm) (hw : ∀ d ∈ tables_1, d.before a0 Z = true) (hby : c.code = method_5_code) (hml : c.maxLocals = 4) (hown : s.vm.findClass "com/example/libpiecewise/libpiecewise/TransformationMonoidPreimagesPinLaw" = some m.cls) (e0 : T0.heap = h0) (Ar_o0 : Arr Z h0 o0 cl_o0 .int) (hin12 : ¬ ((0 : Int32) < 0 ∨ cl_o0.slots.size ≤ ((0 : Int32)).toNatClampNeg)) (hat12 : cl_o0.slots[((0 : Int32)).toNatClampNeg]? = some (.int w3)) (hc7 : (0 : Int32) < i1) (hc14 : ¬ (w3 = i2)) :
    ∃ (T' : State), Stand p l e R s m args below meth c T' locs cells slots ∧ T'.heap = h0 ∧
      ∀ target, Steps p.tables e below (T'.setTop (mkF m 20 #[.val (.ref o0), .val (.int i1), .val (.int i2), s3] [])) target → Steps p.tables e below (T0.setTop (mkF m 6 #[.val (.ref o0), .val (.int i1), .val (.int i2), s3] [])) target := by

  refine ⟨T0, X0, e0, fun target kt => ?_⟩
  show Steps p.tables e below (T0.setTop (mkF m 6 #[.val (.ref o0), .val (.int i1), .val (.int i2), s3] [])) _
  refine XS.iloadN X0.here hx rfl (hb hby d7_6) rfl ?_
  show Steps p.tables e below (T0.setTop (mkF m 7 #[.val (.ref o0), .val (.int i1), .val (.int i2), s3] [(.int i1)])) _
  refine XS.ifNo X0.here hx rfl (hb hby d7_7) rfl ((if0 _ _).trans (tlt hc7).2.2.2) ?_
  show Steps p.tables e below (T0.setTop (mkF m 10 #[.val (.ref o0), .val (.int i1), .val (.int i2), s3] [])) _
  refine XS.aloadN X0.here hx rfl (hb hby d7_10) rfl rfl ?_
  show Steps p.tables e below (T0.setTop (mkF m 11 #[.val (.ref o0), .val (.int i1), .val (.int i2), s3] [(.ref o0)])) _
  refine XS.iconst X0.here hx rfl (hb hby d7_11) ?_
  show Steps p.tables e below (T0.setTop (mkF m 12 #[.val (.ref o0), .val (.int i1), .val (.int i2), s3] [(.int (0 : Int32)), (.ref o0)])) _
  refine X0.iaload hx (j := (0 : Int32)) (v := (.int w3)) (by rw [e0]; exact Ar_o0.1) (State.isArrayOf_alike hZ.alike Ar_o0.2.1) Ar_o0.2.2 hin12 hat12 (g := (mkF m 12 #[.val (.ref o0), .val (.int i1), .val (.int i2), s3] [(.int (0 : Int32)), (.ref o0)])) rfl rfl (hb hby d7_12) _ ?_
  show Steps p.tables e below (T0.setTop (mkF m 13 #[.val (.ref o0), .val (.int i1), .val (.int i2), s3] [(.int w3)])) _
  refine XS.iloadN X0.here hx rfl (hb hby d7_13) rfl ?_
  show Steps p.tables e below (T0.setTop (mkF m 14 #[.val (.ref o0), .val (.int i1), .val (.int i2), s3] [(.int i2), (.int w3)])) _
  refine XS.icmpYes X0.here hx rfl (pc0 := 14) (pc' := 20) rfl (hb hby d7_14) rfl (feq hc14).2 (by decide) (by decide) ?_
  exact kt

set_option maxRecDepth 65536 in
set_option maxHeartbeats 40000000 in
theorem tn7_0t {p : Program} {l : Launch} {e : Env} {R : Room} {s : State} {m : MethodId} {args : Array Value} {below : List Frame} {meth : Method} {c : Code} {T0 : State} {locs : List Loc} {cells slots : Nat} {Z : State} {a0 : Array Value} {h0 : Heap} (s0 : Slot) (i1 : Int32) (s2 : Slot) (s3 : Slot)
    (X0 : Stand p l e R s m args below meth c T0 locs cells slots) (hx : p.tables.exec = Jvm.exec) (hZ : Z.Warmed39 s.vm) (hw : ∀ d ∈ tables_1, d.before a0 Z = true) (hby : c.code = method_5_code) (hml : c.maxLocals = 4) (hown : s.vm.findClass "com/example/libpiecewise/libpiecewise/TransformationMonoidPreimagesPinLaw" = some m.cls) (e0 : T0.heap = h0) (hc7 : ¬ ((0 : Int32) < i1)) :
    ∃ (T' : State), Stand p l e R s m args below meth c T' locs cells slots ∧ T'.heap = h0 ∧
      ∀ target, Steps p.tables e below (T'.setTop (mkF m 20 #[s0, .val (.int i1), s2, s3] [])) target → Steps p.tables e below (T0.setTop (mkF m 6 #[s0, .val (.int i1), s2, s3] [])) target := by

  refine ⟨T0, X0, e0, fun target kt => ?_⟩
  show Steps p.tables e below (T0.setTop (mkF m 6 #[s0, .val (.int i1), s2, s3] [])) _
  refine XS.iloadN X0.here hx rfl (hb hby d7_6) rfl ?_
  show Steps p.tables e below (T0.setTop (mkF m 7 #[s0, .val (.int i1), s2, s3] [(.int i1)])) _
  refine XS.ifYes X0.here hx rfl (pc0 := 7) (pc' := 20) rfl (hb hby d7_7) rfl ((if0 _ _).trans (flt hc7).2.2.2) (by decide) (by decide) ?_
  exact kt

theorem cs7_0 {p : Program} {l : Launch} {e : Env} {s : State} {m : MethodId} {args : Array Value} {below : List Frame} {meth : Method} {c : Code} {R : Room} {T0 : State} {locs : List Loc} {cells slots : Nat} {Z : State} {a0 : Array Value} {h0 : Heap} (o0 : Addr) (i n : Nat) (tv : Nat → Nat) (S : Nat)
    (X0 : Stand p l e R s m args below meth c T0 locs cells slots) (hx : p.tables.exec = Jvm.exec) (hZ : Z.Warmed39 s.vm) (hw : ∀ d ∈ tables_1, d.before a0 Z = true) (hby : c.code = method_5_code) (hml : c.maxLocals = 4) (hown : s.vm.findClass "com/example/libpiecewise/libpiecewise/TransformationMonoidPreimagesPinLaw" = some m.cls) (e0 : T0.heap = h0) (hn : n ≤ 4) (hi : i < n) (htv : ∀ j, j < n → tv j < n) (V : own_arr Z h0 o0 n (own_ft tv)) :
    ∃ (T' : State), Stand p l e R s m args below meth c T' locs cells slots ∧ T'.heap = h0 ∧
      ∀ target, Steps p.tables e below (T'.setTop (mkF m 20 #[.val (.ref o0), .val (.int (Int32.ofNat i)), .val (.int (Int32.ofNat (tv i))), .val (.int (Int32.ofNat (S + own_hit tv i 0 (tv i))))] [])) target → Steps p.tables e below (T0.setTop (mkF m 6 #[.val (.ref o0), .val (.int (Int32.ofNat i)), .val (.int (Int32.ofNat (tv i))), .val (.int (Int32.ofNat S))] [])) target := by
  obtain ⟨cl, Ar, Sz, H⟩ := V
  by_cases h : 0 < i
  · have hkn : 0 < n := by omega
    have v1 := htv 0 hkn
    have v2 := htv i hi
    by_cases g : tv 0 = tv i
    · have q : own_hit tv i 0 (tv i) = 1 := by unfold own_hit; rw [if_pos h, if_pos g]
      obtain ⟨T', X', e', st⟩ := tn7_0ff o0 (Int32.ofNat i) (Int32.ofNat (tv i)) (Int32.ofNat S) (Int32.ofNat (tv 0)) cl X0 hx hZ hw hby hml hown e0 Ar (own_in (j := 0) Sz hkn (by omega)) (own_hat (j := 0) H hkn (by omega)) ((own_lt_iff (i := 0) (by omega) (by omega)).2 h) (by rw [g])
      refine ⟨T', X', e', fun target hh => st target ?_⟩
      rw [q] at hh
      rw [own_one]; exact hh
    · have q : own_hit tv i 0 (tv i) = 0 := by unfold own_hit; rw [if_pos h, if_neg g]
      obtain ⟨T', X', e', st⟩ := tn7_0ft o0 (Int32.ofNat i) (Int32.ofNat (tv i)) (.val (.int (Int32.ofNat S))) (Int32.ofNat (tv 0)) cl X0 hx hZ hw hby hml hown e0 Ar (own_in (j := 0) Sz hkn (by omega)) (own_hat (j := 0) H hkn (by omega)) ((own_lt_iff (i := 0) (by omega) (by omega)).2 h) (fun r => g ((own_eq_iff (by omega) (by omega)).1 r))
      refine ⟨T', X', e', fun target hh => st target ?_⟩
      rw [q] at hh
      exact hh
  · have q : own_hit tv i 0 (tv i) = 0 := by unfold own_hit; rw [if_neg h]
    obtain ⟨T', X', e', st⟩ := tn7_0t (.val (.ref o0)) (Int32.ofNat i) (.val (.int (Int32.ofNat (tv i)))) (.val (.int (Int32.ofNat S))) X0 hx hZ hw hby hml hown e0 (fun r => h ((own_lt_iff (i := 0) (by omega) (by omega)).1 r))
    refine ⟨T', X', e', fun target hh => st target ?_⟩
    rw [q] at hh
    exact hh
theorem d7_25 : decode method_5_code 25 = .ok (.aload_n 0, 1) := by decide +kernel
theorem d7_26 : decode method_5_code 26 = .ok (.iconst 1, 1) := by decide +kernel
theorem d7_27 : decode method_5_code 27 = .ok (.iaload, 1) := by decide +kernel
theorem d7_28 : decode method_5_code 28 = .ok (.iload_n 2, 1) := by decide +kernel
theorem d7_29 : decode method_5_code 29 = .ok (.if_icmp .ne 6, 3) := by decide +kernel
theorem d7_32 : decode method_5_code 32 = .ok (.iinc 3 1, 3) := by decide +kernel
set_option maxRecDepth 65536 in
set_option maxHeartbeats 40000000 in
theorem tn7_1ff {p : Program} {l : Launch} {e : Env} {R : Room} {s : State} {m : MethodId} {args : Array Value} {below : List Frame} {meth : Method} {c : Code} {T0 : State} {locs : List Loc} {cells slots : Nat} {Z : State} {a0 : Array Value} {h0 : Heap} (o0 : Addr) (i1 : Int32) (i2 : Int32) (i3 : Int32) (w3 : Int32) (cl_o0 : Cell)
    (X0 : Stand p l e R s m args below meth c T0 locs cells slots) (hx : p.tables.exec = Jvm.exec) (hZ : Z.Warmed39 s.vm) (hw : ∀ d ∈ tables_1, d.before a0 Z = true) (hby : c.code = method_5_code) (hml : c.maxLocals = 4) (hown : s.vm.findClass "com/example/libpiecewise/libpiecewise/TransformationMonoidPreimagesPinLaw" = some m.cls) (e0 : T0.heap = h0) (Ar_o0 : Arr Z h0 o0 cl_o0 .int) (hin27 : ¬ ((1 : Int32) < 0 ∨ cl_o0.slots.size ≤ ((1 : Int32)).toNatClampNeg)) (hat27 : cl_o0.slots[((1 : Int32)).toNatClampNeg]? = some (.int w3)) (hc22 : (1 : Int32) < i1) (hc29 : w3 = i2) :
    ∃ (T' : State), Stand p l e R s m args below meth c T' locs cells slots ∧ T'.heap = h0 ∧
      ∀ target, Steps p.tables e below (T'.setTop (mkF m 35 #[.val (.ref o0), .val (.int i1), .val (.int i2), .val (.int (i3 + (1 : Int32)))] [])) target → Steps p.tables e below (T0.setTop (mkF m 20 #[.val (.ref o0), .val (.int i1), .val (.int i2), .val (.int i3)] [])) target := by

  refine ⟨T0, X0, e0, fun target kt => ?_⟩
  show Steps p.tables e below (T0.setTop (mkF m 20 #[.val (.ref o0), .val (.int i1), .val (.int i2), .val (.int i3)] [])) _
  refine XS.iloadN X0.here hx rfl (hb hby d7_20) rfl ?_
  show Steps p.tables e below (T0.setTop (mkF m 21 #[.val (.ref o0), .val (.int i1), .val (.int i2), .val (.int i3)] [(.int i1)])) _
  refine XS.iconst X0.here hx rfl (hb hby d7_21) ?_
  show Steps p.tables e below (T0.setTop (mkF m 22 #[.val (.ref o0), .val (.int i1), .val (.int i2), .val (.int i3)] [(.int (1 : Int32)), (.int i1)])) _
  refine XS.icmpNo X0.here hx rfl (hb hby d7_22) rfl (tlt hc22).2.2.2 ?_
  show Steps p.tables e below (T0.setTop (mkF m 25 #[.val (.ref o0), .val (.int i1), .val (.int i2), .val (.int i3)] [])) _
  refine XS.aloadN X0.here hx rfl (hb hby d7_25) rfl rfl ?_
  show Steps p.tables e below (T0.setTop (mkF m 26 #[.val (.ref o0), .val (.int i1), .val (.int i2), .val (.int i3)] [(.ref o0)])) _
  refine XS.iconst X0.here hx rfl (hb hby d7_26) ?_
  show Steps p.tables e below (T0.setTop (mkF m 27 #[.val (.ref o0), .val (.int i1), .val (.int i2), .val (.int i3)] [(.int (1 : Int32)), (.ref o0)])) _
  refine X0.iaload hx (j := (1 : Int32)) (v := (.int w3)) (by rw [e0]; exact Ar_o0.1) (State.isArrayOf_alike hZ.alike Ar_o0.2.1) Ar_o0.2.2 hin27 hat27 (g := (mkF m 27 #[.val (.ref o0), .val (.int i1), .val (.int i2), .val (.int i3)] [(.int (1 : Int32)), (.ref o0)])) rfl rfl (hb hby d7_27) _ ?_
  show Steps p.tables e below (T0.setTop (mkF m 28 #[.val (.ref o0), .val (.int i1), .val (.int i2), .val (.int i3)] [(.int w3)])) _
  refine XS.iloadN X0.here hx rfl (hb hby d7_28) rfl ?_
  show Steps p.tables e below (T0.setTop (mkF m 29 #[.val (.ref o0), .val (.int i1), .val (.int i2), .val (.int i3)] [(.int i2), (.int w3)])) _
  refine XS.icmpNo X0.here hx rfl (hb hby d7_29) rfl (teq hc29).2 ?_
  show Steps p.tables e below (T0.setTop (mkF m 32 #[.val (.ref o0), .val (.int i1), .val (.int i2), .val (.int i3)] [])) _
  refine XS.iinc X0.here hx rfl (hb hby d7_32) rfl (l' := #[.val (.ref o0), .val (.int i1), .val (.int i2), .val (.int (i3 + (1 : Int32)))]) rfl ?_
  exact kt

set_option maxRecDepth 65536 in
set_option maxHeartbeats 40000000 in
theorem tn7_1ft {p : Program} {l : Launch} {e : Env} {R : Room} {s : State} {m : MethodId} {args : Array Value} {below : List Frame} {meth : Method} {c : Code} {T0 : State} {locs : List Loc} {cells slots : Nat} {Z : State} {a0 : Array Value} {h0 : Heap} (o0 : Addr) (i1 : Int32) (i2 : Int32) (s3 : Slot) (w3 : Int32) (cl_o0 : Cell)
    (X0 : Stand p l e R s m args below meth c T0 locs cells slots) (hx : p.tables.exec = Jvm.exec) (hZ : Z.Warmed39 s.vm) (hw : ∀ d ∈ tables_1, d.before a0 Z = true) (hby : c.code = method_5_code) (hml : c.maxLocals = 4) (hown : s.vm.findClass "com/example/libpiecewise/libpiecewise/TransformationMonoidPreimagesPinLaw" = some m.cls) (e0 : T0.heap = h0) (Ar_o0 : Arr Z h0 o0 cl_o0 .int) (hin27 : ¬ ((1 : Int32) < 0 ∨ cl_o0.slots.size ≤ ((1 : Int32)).toNatClampNeg)) (hat27 : cl_o0.slots[((1 : Int32)).toNatClampNeg]? = some (.int w3)) (hc22 : (1 : Int32) < i1) (hc29 : ¬ (w3 = i2)) :
    ∃ (T' : State), Stand p l e R s m args below meth c T' locs cells slots ∧ T'.heap = h0 ∧
      ∀ target, Steps p.tables e below (T'.setTop (mkF m 35 #[.val (.ref o0), .val (.int i1), .val (.int i2), s3] [])) target → Steps p.tables e below (T0.setTop (mkF m 20 #[.val (.ref o0), .val (.int i1), .val (.int i2), s3] [])) target := by

  refine ⟨T0, X0, e0, fun target kt => ?_⟩
  show Steps p.tables e below (T0.setTop (mkF m 20 #[.val (.ref o0), .val (.int i1), .val (.int i2), s3] [])) _
  refine XS.iloadN X0.here hx rfl (hb hby d7_20) rfl ?_
  show Steps p.tables e below (T0.setTop (mkF m 21 #[.val (.ref o0), .val (.int i1), .val (.int i2), s3] [(.int i1)])) _
  refine XS.iconst X0.here hx rfl (hb hby d7_21) ?_
  show Steps p.tables e below (T0.setTop (mkF m 22 #[.val (.ref o0), .val (.int i1), .val (.int i2), s3] [(.int (1 : Int32)), (.int i1)])) _
  refine XS.icmpNo X0.here hx rfl (hb hby d7_22) rfl (tlt hc22).2.2.2 ?_
  show Steps p.tables e below (T0.setTop (mkF m 25 #[.val (.ref o0), .val (.int i1), .val (.int i2), s3] [])) _
  refine XS.aloadN X0.here hx rfl (hb hby d7_25) rfl rfl ?_
  show Steps p.tables e below (T0.setTop (mkF m 26 #[.val (.ref o0), .val (.int i1), .val (.int i2), s3] [(.ref o0)])) _
  refine XS.iconst X0.here hx rfl (hb hby d7_26) ?_
  show Steps p.tables e below (T0.setTop (mkF m 27 #[.val (.ref o0), .val (.int i1), .val (.int i2), s3] [(.int (1 : Int32)), (.ref o0)])) _
  refine X0.iaload hx (j := (1 : Int32)) (v := (.int w3)) (by rw [e0]; exact Ar_o0.1) (State.isArrayOf_alike hZ.alike Ar_o0.2.1) Ar_o0.2.2 hin27 hat27 (g := (mkF m 27 #[.val (.ref o0), .val (.int i1), .val (.int i2), s3] [(.int (1 : Int32)), (.ref o0)])) rfl rfl (hb hby d7_27) _ ?_
  show Steps p.tables e below (T0.setTop (mkF m 28 #[.val (.ref o0), .val (.int i1), .val (.int i2), s3] [(.int w3)])) _
  refine XS.iloadN X0.here hx rfl (hb hby d7_28) rfl ?_
  show Steps p.tables e below (T0.setTop (mkF m 29 #[.val (.ref o0), .val (.int i1), .val (.int i2), s3] [(.int i2), (.int w3)])) _
  refine XS.icmpYes X0.here hx rfl (pc0 := 29) (pc' := 35) rfl (hb hby d7_29) rfl (feq hc29).2 (by decide) (by decide) ?_
  exact kt

set_option maxRecDepth 65536 in
set_option maxHeartbeats 40000000 in
theorem tn7_1t {p : Program} {l : Launch} {e : Env} {R : Room} {s : State} {m : MethodId} {args : Array Value} {below : List Frame} {meth : Method} {c : Code} {T0 : State} {locs : List Loc} {cells slots : Nat} {Z : State} {a0 : Array Value} {h0 : Heap} (s0 : Slot) (i1 : Int32) (s2 : Slot) (s3 : Slot)
    (X0 : Stand p l e R s m args below meth c T0 locs cells slots) (hx : p.tables.exec = Jvm.exec) (hZ : Z.Warmed39 s.vm) (hw : ∀ d ∈ tables_1, d.before a0 Z = true) (hby : c.code = method_5_code) (hml : c.maxLocals = 4) (hown : s.vm.findClass "com/example/libpiecewise/libpiecewise/TransformationMonoidPreimagesPinLaw" = some m.cls) (e0 : T0.heap = h0) (hc22 : ¬ ((1 : Int32) < i1)) :
    ∃ (T' : State), Stand p l e R s m args below meth c T' locs cells slots ∧ T'.heap = h0 ∧
      ∀ target, Steps p.tables e below (T'.setTop (mkF m 35 #[s0, .val (.int i1), s2, s3] [])) target → Steps p.tables e below (T0.setTop (mkF m 20 #[s0, .val (.int i1), s2, s3] [])) target := by

  refine ⟨T0, X0, e0, fun target kt => ?_⟩
  show Steps p.tables e below (T0.setTop (mkF m 20 #[s0, .val (.int i1), s2, s3] [])) _
  refine XS.iloadN X0.here hx rfl (hb hby d7_20) rfl ?_
  show Steps p.tables e below (T0.setTop (mkF m 21 #[s0, .val (.int i1), s2, s3] [(.int i1)])) _
  refine XS.iconst X0.here hx rfl (hb hby d7_21) ?_
  show Steps p.tables e below (T0.setTop (mkF m 22 #[s0, .val (.int i1), s2, s3] [(.int (1 : Int32)), (.int i1)])) _
  refine XS.icmpYes X0.here hx rfl (pc0 := 22) (pc' := 35) rfl (hb hby d7_22) rfl (flt hc22).2.2.2 (by decide) (by decide) ?_
  exact kt

theorem cs7_1 {p : Program} {l : Launch} {e : Env} {s : State} {m : MethodId} {args : Array Value} {below : List Frame} {meth : Method} {c : Code} {R : Room} {T0 : State} {locs : List Loc} {cells slots : Nat} {Z : State} {a0 : Array Value} {h0 : Heap} (o0 : Addr) (i n : Nat) (tv : Nat → Nat) (S : Nat)
    (X0 : Stand p l e R s m args below meth c T0 locs cells slots) (hx : p.tables.exec = Jvm.exec) (hZ : Z.Warmed39 s.vm) (hw : ∀ d ∈ tables_1, d.before a0 Z = true) (hby : c.code = method_5_code) (hml : c.maxLocals = 4) (hown : s.vm.findClass "com/example/libpiecewise/libpiecewise/TransformationMonoidPreimagesPinLaw" = some m.cls) (e0 : T0.heap = h0) (hn : n ≤ 4) (hi : i < n) (htv : ∀ j, j < n → tv j < n) (V : own_arr Z h0 o0 n (own_ft tv)) :
    ∃ (T' : State), Stand p l e R s m args below meth c T' locs cells slots ∧ T'.heap = h0 ∧
      ∀ target, Steps p.tables e below (T'.setTop (mkF m 35 #[.val (.ref o0), .val (.int (Int32.ofNat i)), .val (.int (Int32.ofNat (tv i))), .val (.int (Int32.ofNat (S + own_hit tv i 1 (tv i))))] [])) target → Steps p.tables e below (T0.setTop (mkF m 20 #[.val (.ref o0), .val (.int (Int32.ofNat i)), .val (.int (Int32.ofNat (tv i))), .val (.int (Int32.ofNat S))] [])) target := by
  obtain ⟨cl, Ar, Sz, H⟩ := V
  by_cases h : 1 < i
  · have hkn : 1 < n := by omega
    have v1 := htv 1 hkn
    have v2 := htv i hi
    by_cases g : tv 1 = tv i
    · have q : own_hit tv i 1 (tv i) = 1 := by unfold own_hit; rw [if_pos h, if_pos g]
      obtain ⟨T', X', e', st⟩ := tn7_1ff o0 (Int32.ofNat i) (Int32.ofNat (tv i)) (Int32.ofNat S) (Int32.ofNat (tv 1)) cl X0 hx hZ hw hby hml hown e0 Ar (own_in (j := 1) Sz hkn (by omega)) (own_hat (j := 1) H hkn (by omega)) ((own_lt_iff (i := 1) (by omega) (by omega)).2 h) (by rw [g])
      refine ⟨T', X', e', fun target hh => st target ?_⟩
      rw [q] at hh
      rw [own_one]; exact hh
    · have q : own_hit tv i 1 (tv i) = 0 := by unfold own_hit; rw [if_pos h, if_neg g]
      obtain ⟨T', X', e', st⟩ := tn7_1ft o0 (Int32.ofNat i) (Int32.ofNat (tv i)) (.val (.int (Int32.ofNat S))) (Int32.ofNat (tv 1)) cl X0 hx hZ hw hby hml hown e0 Ar (own_in (j := 1) Sz hkn (by omega)) (own_hat (j := 1) H hkn (by omega)) ((own_lt_iff (i := 1) (by omega) (by omega)).2 h) (fun r => g ((own_eq_iff (by omega) (by omega)).1 r))
      refine ⟨T', X', e', fun target hh => st target ?_⟩
      rw [q] at hh
      exact hh
  · have q : own_hit tv i 1 (tv i) = 0 := by unfold own_hit; rw [if_neg h]
    obtain ⟨T', X', e', st⟩ := tn7_1t (.val (.ref o0)) (Int32.ofNat i) (.val (.int (Int32.ofNat (tv i)))) (.val (.int (Int32.ofNat S))) X0 hx hZ hw hby hml hown e0 (fun r => h ((own_lt_iff (i := 1) (by omega) (by omega)).1 r))
    refine ⟨T', X', e', fun target hh => st target ?_⟩
    rw [q] at hh
    exact hh
theorem d7_40 : decode method_5_code 40 = .ok (.aload_n 0, 1) := by decide +kernel
theorem d7_41 : decode method_5_code 41 = .ok (.iconst 2, 1) := by decide +kernel
theorem d7_42 : decode method_5_code 42 = .ok (.iaload, 1) := by decide +kernel
theorem d7_43 : decode method_5_code 43 = .ok (.iload_n 2, 1) := by decide +kernel
theorem d7_44 : decode method_5_code 44 = .ok (.if_icmp .ne 6, 3) := by decide +kernel
theorem d7_47 : decode method_5_code 47 = .ok (.iinc 3 1, 3) := by decide +kernel
set_option maxRecDepth 65536 in
set_option maxHeartbeats 40000000 in
theorem tn7_2ff {p : Program} {l : Launch} {e : Env} {R : Room} {s : State} {m : MethodId} {args : Array Value} {below : List Frame} {meth : Method} {c : Code} {T0 : State} {locs : List Loc} {cells slots : Nat} {Z : State} {a0 : Array Value} {h0 : Heap} (o0 : Addr) (i1 : Int32) (i2 : Int32) (i3 : Int32) (w3 : Int32) (cl_o0 : Cell)
    (X0 : Stand p l e R s m args below meth c T0 locs cells slots) (hx : p.tables.exec = Jvm.exec) (hZ : Z.Warmed39 s.vm) (hw : ∀ d ∈ tables_1, d.before a0 Z = true) (hby : c.code = method_5_code) (hml : c.maxLocals = 4) (hown : s.vm.findClass "com/example/libpiecewise/libpiecewise/TransformationMonoidPreimagesPinLaw" = some m.cls) (e0 : T0.heap = h0) (Ar_o0 : Arr Z h0 o0 cl_o0 .int) (hin42 : ¬ ((2 : Int32) < 0 ∨ cl_o0.slots.size ≤ ((2 : Int32)).toNatClampNeg)) (hat42 : cl_o0.slots[((2 : Int32)).toNatClampNeg]? = some (.int w3)) (hc37 : (2 : Int32) < i1) (hc44 : w3 = i2) :
    ∃ (T' : State), Stand p l e R s m args below meth c T' locs cells slots ∧ T'.heap = h0 ∧
      ∀ target, Steps p.tables e below (T'.setTop (mkF m 50 #[.val (.ref o0), .val (.int i1), .val (.int i2), .val (.int (i3 + (1 : Int32)))] [])) target → Steps p.tables e below (T0.setTop (mkF m 35 #[.val (.ref o0), .val (.int i1), .val (.int i2), .val (.int i3)] [])) target := by

  refine ⟨T0, X0, e0, fun target kt => ?_⟩
  show Steps p.tables e below (T0.setTop (mkF m 35 #[.val (.ref o0), .val (.int i1), .val (.int i2), .val (.int i3)] [])) _
  refine XS.iloadN X0.here hx rfl (hb hby d7_35) rfl ?_
  show Steps p.tables e below (T0.setTop (mkF m 36 #[.val (.ref o0), .val (.int i1), .val (.int i2), .val (.int i3)] [(.int i1)])) _
  refine XS.iconst X0.here hx rfl (hb hby d7_36) ?_
  show Steps p.tables e below (T0.setTop (mkF m 37 #[.val (.ref o0), .val (.int i1), .val (.int i2), .val (.int i3)] [(.int (2 : Int32)), (.int i1)])) _
  refine XS.icmpNo X0.here hx rfl (hb hby d7_37) rfl (tlt hc37).2.2.2 ?_
  show Steps p.tables e below (T0.setTop (mkF m 40 #[.val (.ref o0), .val (.int i1), .val (.int i2), .val (.int i3)] [])) _
  refine XS.aloadN X0.here hx rfl (hb hby d7_40) rfl rfl ?_
  show Steps p.tables e below (T0.setTop (mkF m 41 #[.val (.ref o0), .val (.int i1), .val (.int i2), .val (.int i3)] [(.ref o0)])) _
  refine XS.iconst X0.here hx rfl (hb hby d7_41) ?_
  show Steps p.tables e below (T0.setTop (mkF m 42 #[.val (.ref o0), .val (.int i1), .val (.int i2), .val (.int i3)] [(.int (2 : Int32)), (.ref o0)])) _
  refine X0.iaload hx (j := (2 : Int32)) (v := (.int w3)) (by rw [e0]; exact Ar_o0.1) (State.isArrayOf_alike hZ.alike Ar_o0.2.1) Ar_o0.2.2 hin42 hat42 (g := (mkF m 42 #[.val (.ref o0), .val (.int i1), .val (.int i2), .val (.int i3)] [(.int (2 : Int32)), (.ref o0)])) rfl rfl (hb hby d7_42) _ ?_
  show Steps p.tables e below (T0.setTop (mkF m 43 #[.val (.ref o0), .val (.int i1), .val (.int i2), .val (.int i3)] [(.int w3)])) _
  refine XS.iloadN X0.here hx rfl (hb hby d7_43) rfl ?_
  show Steps p.tables e below (T0.setTop (mkF m 44 #[.val (.ref o0), .val (.int i1), .val (.int i2), .val (.int i3)] [(.int i2), (.int w3)])) _
  refine XS.icmpNo X0.here hx rfl (hb hby d7_44) rfl (teq hc44).2 ?_
  show Steps p.tables e below (T0.setTop (mkF m 47 #[.val (.ref o0), .val (.int i1), .val (.int i2), .val (.int i3)] [])) _
  refine XS.iinc X0.here hx rfl (hb hby d7_47) rfl (l' := #[.val (.ref o0), .val (.int i1), .val (.int i2), .val (.int (i3 + (1 : Int32)))]) rfl ?_
  exact kt

set_option maxRecDepth 65536 in
set_option maxHeartbeats 40000000 in
theorem tn7_2ft {p : Program} {l : Launch} {e : Env} {R : Room} {s : State} {m : MethodId} {args : Array Value} {below : List Frame} {meth : Method} {c : Code} {T0 : State} {locs : List Loc} {cells slots : Nat} {Z : State} {a0 : Array Value} {h0 : Heap} (o0 : Addr) (i1 : Int32) (i2 : Int32) (s3 : Slot) (w3 : Int32) (cl_o0 : Cell)
    (X0 : Stand p l e R s m args below meth c T0 locs cells slots) (hx : p.tables.exec = Jvm.exec) (hZ : Z.Warmed39 s.vm) (hw : ∀ d ∈ tables_1, d.before a0 Z = true) (hby : c.code = method_5_code) (hml : c.maxLocals = 4) (hown : s.vm.findClass "com/example/libpiecewise/libpiecewise/TransformationMonoidPreimagesPinLaw" = some m.cls) (e0 : T0.heap = h0) (Ar_o0 : Arr Z h0 o0 cl_o0 .int) (hin42 : ¬ ((2 : Int32) < 0 ∨ cl_o0.slots.size ≤ ((2 : Int32)).toNatClampNeg)) (hat42 : cl_o0.slots[((2 : Int32)).toNatClampNeg]? = some (.int w3)) (hc37 : (2 : Int32) < i1) (hc44 : ¬ (w3 = i2)) :
    ∃ (T' : State), Stand p l e R s m args below meth c T' locs cells slots ∧ T'.heap = h0 ∧
      ∀ target, Steps p.tables e below (T'.setTop (mkF m 50 #[.val (.ref o0), .val (.int i1), .val (.int i2), s3] [])) target → Steps p.tables e below (T0.setTop (mkF m 35 #[.val (.ref o0), .val (.int i1), .val (.int i2), s3] [])) target := by

  refine ⟨T0, X0, e0, fun target kt => ?_⟩
  show Steps p.tables e below (T0.setTop (mkF m 35 #[.val (.ref o0), .val (.int i1), .val (.int i2), s3] [])) _
  refine XS.iloadN X0.here hx rfl (hb hby d7_35) rfl ?_
  show Steps p.tables e below (T0.setTop (mkF m 36 #[.val (.ref o0), .val (.int i1), .val (.int i2), s3] [(.int i1)])) _
  refine XS.iconst X0.here hx rfl (hb hby d7_36) ?_
  show Steps p.tables e below (T0.setTop (mkF m 37 #[.val (.ref o0), .val (.int i1), .val (.int i2), s3] [(.int (2 : Int32)), (.int i1)])) _
  refine XS.icmpNo X0.here hx rfl (hb hby d7_37) rfl (tlt hc37).2.2.2 ?_
  show Steps p.tables e below (T0.setTop (mkF m 40 #[.val (.ref o0), .val (.int i1), .val (.int i2), s3] [])) _
  refine XS.aloadN X0.here hx rfl (hb hby d7_40) rfl rfl ?_
  show Steps p.tables e below (T0.setTop (mkF m 41 #[.val (.ref o0), .val (.int i1), .val (.int i2), s3] [(.ref o0)])) _
  refine XS.iconst X0.here hx rfl (hb hby d7_41) ?_
  show Steps p.tables e below (T0.setTop (mkF m 42 #[.val (.ref o0), .val (.int i1), .val (.int i2), s3] [(.int (2 : Int32)), (.ref o0)])) _
  refine X0.iaload hx (j := (2 : Int32)) (v := (.int w3)) (by rw [e0]; exact Ar_o0.1) (State.isArrayOf_alike hZ.alike Ar_o0.2.1) Ar_o0.2.2 hin42 hat42 (g := (mkF m 42 #[.val (.ref o0), .val (.int i1), .val (.int i2), s3] [(.int (2 : Int32)), (.ref o0)])) rfl rfl (hb hby d7_42) _ ?_
  show Steps p.tables e below (T0.setTop (mkF m 43 #[.val (.ref o0), .val (.int i1), .val (.int i2), s3] [(.int w3)])) _
  refine XS.iloadN X0.here hx rfl (hb hby d7_43) rfl ?_
  show Steps p.tables e below (T0.setTop (mkF m 44 #[.val (.ref o0), .val (.int i1), .val (.int i2), s3] [(.int i2), (.int w3)])) _
  refine XS.icmpYes X0.here hx rfl (pc0 := 44) (pc' := 50) rfl (hb hby d7_44) rfl (feq hc44).2 (by decide) (by decide) ?_
  exact kt

set_option maxRecDepth 65536 in
set_option maxHeartbeats 40000000 in
theorem tn7_2t {p : Program} {l : Launch} {e : Env} {R : Room} {s : State} {m : MethodId} {args : Array Value} {below : List Frame} {meth : Method} {c : Code} {T0 : State} {locs : List Loc} {cells slots : Nat} {Z : State} {a0 : Array Value} {h0 : Heap} (s0 : Slot) (i1 : Int32) (s2 : Slot) (s3 : Slot)
    (X0 : Stand p l e R s m args below meth c T0 locs cells slots) (hx : p.tables.exec = Jvm.exec) (hZ : Z.Warmed39 s.vm) (hw : ∀ d ∈ tables_1, d.before a0 Z = true) (hby : c.code = method_5_code) (hml : c.maxLocals = 4) (hown : s.vm.findClass "com/example/libpiecewise/libpiecewise/TransformationMonoidPreimagesPinLaw" = some m.cls) (e0 : T0.heap = h0) (hc37 : ¬ ((2 : Int32) < i1)) :
    ∃ (T' : State), Stand p l e R s m args below meth c T' locs cells slots ∧ T'.heap = h0 ∧
      ∀ target, Steps p.tables e below (T'.setTop (mkF m 50 #[s0, .val (.int i1), s2, s3] [])) target → Steps p.tables e below (T0.setTop (mkF m 35 #[s0, .val (.int i1), s2, s3] [])) target := by

  refine ⟨T0, X0, e0, fun target kt => ?_⟩
  show Steps p.tables e below (T0.setTop (mkF m 35 #[s0, .val (.int i1), s2, s3] [])) _
  refine XS.iloadN X0.here hx rfl (hb hby d7_35) rfl ?_
  show Steps p.tables e below (T0.setTop (mkF m 36 #[s0, .val (.int i1), s2, s3] [(.int i1)])) _
  refine XS.iconst X0.here hx rfl (hb hby d7_36) ?_
  show Steps p.tables e below (T0.setTop (mkF m 37 #[s0, .val (.int i1), s2, s3] [(.int (2 : Int32)), (.int i1)])) _
  refine XS.icmpYes X0.here hx rfl (pc0 := 37) (pc' := 50) rfl (hb hby d7_37) rfl (flt hc37).2.2.2 (by decide) (by decide) ?_
  exact kt

theorem cs7_2 {p : Program} {l : Launch} {e : Env} {s : State} {m : MethodId} {args : Array Value} {below : List Frame} {meth : Method} {c : Code} {R : Room} {T0 : State} {locs : List Loc} {cells slots : Nat} {Z : State} {a0 : Array Value} {h0 : Heap} (o0 : Addr) (i n : Nat) (tv : Nat → Nat) (S : Nat)
    (X0 : Stand p l e R s m args below meth c T0 locs cells slots) (hx : p.tables.exec = Jvm.exec) (hZ : Z.Warmed39 s.vm) (hw : ∀ d ∈ tables_1, d.before a0 Z = true) (hby : c.code = method_5_code) (hml : c.maxLocals = 4) (hown : s.vm.findClass "com/example/libpiecewise/libpiecewise/TransformationMonoidPreimagesPinLaw" = some m.cls) (e0 : T0.heap = h0) (hn : n ≤ 4) (hi : i < n) (htv : ∀ j, j < n → tv j < n) (V : own_arr Z h0 o0 n (own_ft tv)) :
    ∃ (T' : State), Stand p l e R s m args below meth c T' locs cells slots ∧ T'.heap = h0 ∧
      ∀ target, Steps p.tables e below (T'.setTop (mkF m 50 #[.val (.ref o0), .val (.int (Int32.ofNat i)), .val (.int (Int32.ofNat (tv i))), .val (.int (Int32.ofNat (S + own_hit tv i 2 (tv i))))] [])) target → Steps p.tables e below (T0.setTop (mkF m 35 #[.val (.ref o0), .val (.int (Int32.ofNat i)), .val (.int (Int32.ofNat (tv i))), .val (.int (Int32.ofNat S))] [])) target := by
  obtain ⟨cl, Ar, Sz, H⟩ := V
  by_cases h : 2 < i
  · have hkn : 2 < n := by omega
    have v1 := htv 2 hkn
    have v2 := htv i hi
    by_cases g : tv 2 = tv i
    · have q : own_hit tv i 2 (tv i) = 1 := by unfold own_hit; rw [if_pos h, if_pos g]
      obtain ⟨T', X', e', st⟩ := tn7_2ff o0 (Int32.ofNat i) (Int32.ofNat (tv i)) (Int32.ofNat S) (Int32.ofNat (tv 2)) cl X0 hx hZ hw hby hml hown e0 Ar (own_in (j := 2) Sz hkn (by omega)) (own_hat (j := 2) H hkn (by omega)) ((own_lt_iff (i := 2) (by omega) (by omega)).2 h) (by rw [g])
      refine ⟨T', X', e', fun target hh => st target ?_⟩
      rw [q] at hh
      rw [own_one]; exact hh
    · have q : own_hit tv i 2 (tv i) = 0 := by unfold own_hit; rw [if_pos h, if_neg g]
      obtain ⟨T', X', e', st⟩ := tn7_2ft o0 (Int32.ofNat i) (Int32.ofNat (tv i)) (.val (.int (Int32.ofNat S))) (Int32.ofNat (tv 2)) cl X0 hx hZ hw hby hml hown e0 Ar (own_in (j := 2) Sz hkn (by omega)) (own_hat (j := 2) H hkn (by omega)) ((own_lt_iff (i := 2) (by omega) (by omega)).2 h) (fun r => g ((own_eq_iff (by omega) (by omega)).1 r))
      refine ⟨T', X', e', fun target hh => st target ?_⟩
      rw [q] at hh
      exact hh
  · have q : own_hit tv i 2 (tv i) = 0 := by unfold own_hit; rw [if_neg h]
    obtain ⟨T', X', e', st⟩ := tn7_2t (.val (.ref o0)) (Int32.ofNat i) (.val (.int (Int32.ofNat (tv i)))) (.val (.int (Int32.ofNat S))) X0 hx hZ hw hby hml hown e0 (fun r => h ((own_lt_iff (i := 2) (by omega) (by omega)).1 r))
    refine ⟨T', X', e', fun target hh => st target ?_⟩
    rw [q] at hh
    exact hh
def Q7 (Z : State) (w : Int32) (h0 : Heap) (n0 : Nat) (v : Option Value) (h : Heap) (L : List Loc) : Prop := v = some (.int w) ∧ Fr n0 L ∧ h = h0
set_option maxRecDepth 65536 in
set_option maxHeartbeats 40000000 in
theorem rm7 (l : Launch) (Z : State) (a0 : Array Value) (hw : ∀ d ∈ tables_1, d.before a0 Z = true) (ws : List Jvm.Cond) (a1 : Addr) (i n : Nat) (tv : Nat → Nat) (h0 : Heap) (n0 : Nat) (Z0 : n0 ≤ h0.size) (hn : n ≤ 4) (hi : i < n) (htv : ∀ j, j < n → tv j < n) (V : own_arr Z h0 a1 n (own_ft tv)) :
    MetFree l (⟨"com/example/libpiecewise/libpiecewise/TransformationMonoidPreimagesPinLaw", "rank", "([II)I"⟩ : MethodName) (head1 (Jvm.Cond.code (⟨"com/example/libpiecewise/libpiecewise/TransformationMonoidPreimagesPinLaw", "rank", "([II)I"⟩ : MethodName) method_5_code 4 (some .int) :: ws) ({ frames := 0, cells := 0, slots := 0, locals := 0 } : Room)) (fun a U => a = #[(.ref a1), (.int (Int32.ofNat i))] ∧ Z.Warmed39 U.vm ∧ U.heap = h0) (fun _ _ _ _ _ => True) (fun _ U o U' => ∃ v L, o = .returned v ∧ Q7 Z (Int32.ofNat (own_cnt tv i (tv i))) h0 n0 v U'.heap L ∧ FrameEnd U o U' L ({ frames := 0, cells := 0, slots := 0, locals := 0 } : Room).cells ({ frames := 0, cells := 0, slots := 0, locals := 0 } : Room).slots) := by
  refine MetFree.of_bodySF (plainFor_of_name pn_7) hisR ?_
  intro p e s m args below meth c s₁ Bd hml0 hP hK
  obtain ⟨rfl, hZ, hh⟩ := hP
  have hx := Bd.exec
  have hby := Bd.bytes
  have hml : c.maxLocals = 4 := hml0
  have hown : s.vm.findClass "com/example/libpiecewise/libpiecewise/TransformationMonoidPreimagesPinLaw" = some m.cls := findClass_of_methodNamed Bd.named
  have hnm := (name_of_methodNamed Bd.named Bd.method).1
  have X0 : Stand p l e ({ frames := 0, cells := 0, slots := 0, locals := 0 } : Room) s m #[(.ref a1), (.int (Int32.ofNat i))] below meth c s₁ [] 0 0 := Stand.of_body Bd
  have e0 : s₁.heap = h0 := by rw [← hh, Bd.state]; rfl
  have N0 := Fr.nil n0
  have pre0 : ∀ t, Steps p.tables e below (s₁.setTop (mkF m 0 #[.val (.ref a1), .val (.int (Int32.ofNat i)), .unset, .unset] [])) t → Steps p.tables e below (s₁.setTop (entryFrame m #[(.ref a1), (.int (Int32.ofNat i))] 4)) t := fun t k => castTop (ef_7 m a1 (Int32.ofNat i)) k
  have V' := V
  obtain ⟨cl, Ar, Sz, H⟩ := V'
  obtain ⟨T1, X1, e1, st1⟩ := tn7_0_6 a1 (Int32.ofNat i) .unset .unset (Int32.ofNat (tv i)) cl X0 hx hZ hw hby hml hown e0 Ar (own_in Sz hi (by omega)) (own_hat H hi (by omega)) One.u One.u
  obtain ⟨T2, X2, e2, st2⟩ := cs7_0 a1 i n tv 0 X1 hx hZ hw hby hml hown e1 hn hi htv V
  obtain ⟨T3, X3, e3, st3⟩ := cs7_1 a1 i n tv (0 + own_hit tv i 0 (tv i)) X2 hx hZ hw hby hml hown e2 hn hi htv V
  obtain ⟨T4, X4, e4, st4⟩ := cs7_2 a1 i n tv (0 + own_hit tv i 0 (tv i) + own_hit tv i 1 (tv i)) X3 hx hZ hw hby hml hown e3 hn hi htv V
  rw [Nat.zero_add] at st2 st3 st4
  rw [own_cnt3 tv i (tv i) (by omega)] at st4
  obtain ⟨fs, hr, hrun, hended, hW, hsame⟩ := X4.leave (v := some (.int (Int32.ofNat (own_cnt tv i (tv i))))) (fun h => by rw [Bd.returns] at h; cases h)
  refine ⟨_, _, pre0 _ ?_, hrun, hended, _, _, rfl, ?_, ⟨_, rfl⟩, hW, hsame.mono (by decide) (by decide)⟩
  · refine st1 _ (st2 _ (st3 _ (st4 _ ?_)))
    show Steps p.tables e below (T4.setTop (mkF m 50 #[.val (.ref a1), .val (.int (Int32.ofNat i)), .val (.int (Int32.ofNat (tv i))), .val (.int (Int32.ofNat (own_cnt tv i (tv i))))] [])) _
    refine XS.iloadN X4.here hx rfl (hb hby d7_50) rfl ?_
    show Steps p.tables e below (T4.setTop (mkF m 51 #[.val (.ref a1), .val (.int (Int32.ofNat i)), .val (.int (Int32.ofNat (tv i))), .val (.int (Int32.ofNat (own_cnt tv i (tv i))))] [(.int (Int32.ofNat (own_cnt tv i (tv i))))])) _
    exact retI X4 hx Bd.returns (hb hby d7_51) hr
  · show Q7 Z _ h0 n0 _ T4.heap _
    rw [e4]
    exact ⟨rfl, N0, rfl⟩
/-- what preimages leaves: the rows, each as long as its preimage, and where each point lies -/
def own_res (Z : State) (h : Heap) (rr : Addr) (kr : ClassId) (n : Nat) (tv : Nat → Nat) (r : Nat → Addr) (G : Nat → Nat → Int32) : Prop := own_rows Z h rr kr n (fun q => .ref (r q)) ∧ (∀ q, q < n → own_arr Z h (r q) (own_cnt tv n q) (G q)) ∧ ∀ j, j < n → G (tv j) (own_cnt tv j (tv j)) = Int32.ofNat j
theorem own_res.keep {Z : State} {h h' : Heap} {rr : Addr} {kr : ClassId} {n : Nat} {tv : Nat → Nat} {r : Nat → Addr} {G : Nat → Nat → Int32} (F : own_res Z h rr kr n tv r G) (K : Keep h h' []) : own_res Z h' rr kr n tv r G := ⟨F.1.keep K, fun q hq => (F.2.1 q hq).keep K, F.2.2⟩
theorem d2_0 : decode method_6_code 0 = .ok (.iload_n 2, 1) := by decide +kernel
theorem d2_1 : decode method_6_code 1 = .ok (.aload_n 1, 1) := by decide +kernel
theorem d2_2 : decode method_6_code 2 = .ok (.arraylength, 1) := by decide +kernel
theorem d2_3 : decode method_6_code 3 = .ok (.if_icmp .lt 5, 3) := by decide +kernel
theorem d2_6 : decode method_6_code 6 = .ok (.iconst 1, 1) := by decide +kernel
theorem d2_7 : decode method_6_code 7 = .ok (.ireturn, 1) := by decide +kernel
theorem pn_2 : plainName "com/example/libpiecewise/libpiecewise/TransformationMonoidPreimagesPinLaw" = true := by first | (simp [plainName, overriddenIn]; done) | decide +kernel
theorem ef_2 (m : MethodId) (x0 : Addr) (x1 : Addr) (x2 : Int32) : entryFrame m #[(.ref x0), (.ref x1), (.int x2)] 3 = mkF m 0 #[.val (.ref x0), .val (.ref x1), .val (.int x2)] [] := by first | (simp [entryFrame, mkF, argsToLocals, Value.category]; done) | rfl
theorem d2_8 : decode method_6_code 8 = .ok (.aload_n 0, 1) := by decide +kernel
theorem d2_9 : decode method_6_code 9 = .ok (.iload_n 2, 1) := by decide +kernel
theorem d2_10 : decode method_6_code 10 = .ok (.aaload, 1) := by decide +kernel
theorem d2_11 : decode method_6_code 11 = .ok (.ifnull 19, 3) := by decide +kernel
theorem d2_14 : decode method_6_code 14 = .ok (.aload_n 0, 1) := by decide +kernel
theorem d2_15 : decode method_6_code 15 = .ok (.iload_n 2, 1) := by decide +kernel
theorem d2_16 : decode method_6_code 16 = .ok (.aaload, 1) := by decide +kernel
theorem d2_17 : decode method_6_code 17 = .ok (.arraylength, 1) := by decide +kernel
theorem d2_18 : decode method_6_code 18 = .ok (.aload_n 1, 1) := by decide +kernel
theorem d2_19 : decode method_6_code 19 = .ok (.iload_n 2, 1) := by decide +kernel
theorem d2_20 : decode method_6_code 20 = .ok (.invokestatic 14, 3) := by decide +kernel
theorem d2_23 : decode method_6_code 23 = .ok (.if_icmp .ne 7, 3) := by decide +kernel
theorem d2_26 : decode method_6_code 26 = .ok (.iconst 1, 1) := by decide +kernel
theorem d2_27 : decode method_6_code 27 = .ok (.goto 4, 3) := by decide +kernel
theorem d2_31 : decode method_6_code 31 = .ok (.ireturn, 1) := by decide +kernel
theorem pd_2_3 : parseMethodDescriptor "([II)I" = some ⟨[(.array .int), .int], some .int⟩ := by decide +kernel
def Q2 (Z : State) (h0 : Heap) (n0 : Nat) (v : Option Value) (h : Heap) (L : List Loc) : Prop := v = some (.int (1 : Int32)) ∧ Fr n0 L ∧ h = h0
set_option maxRecDepth 65536 in
set_option maxHeartbeats 40000000 in
theorem rm2_n (l : Launch) (Z : State) (a0 : Array Value) (hw : ∀ d ∈ tables_1, d.before a0 Z = true) (ws : List Jvm.Cond) (a1 : Addr) (a2 : Addr) (p3 : Int32) (cl_a2 : Cell) (z_a2 : Int32) (h0 : Heap) (n0 : Nat) (Z0 : n0 ≤ h0.size) (Ar_a2 : Arr Z h0 a2 cl_a2 .int) (S_a2 : cl_a2.slots.size = z_a2.toNatClampNeg) (N_a2 : ¬ z_a2 < 0) (hc3 : ¬ (p3 < z_a2)) :
    MetFree l (⟨"com/example/libpiecewise/libpiecewise/TransformationMonoidPreimagesPinLaw", "rowOk", "([[I[II)Z"⟩ : MethodName) (head1 (Jvm.Cond.code (⟨"com/example/libpiecewise/libpiecewise/TransformationMonoidPreimagesPinLaw", "rowOk", "([[I[II)Z"⟩ : MethodName) method_6_code 3 (some .boolean) :: ws) ({ frames := 2, cells := 0, slots := 0, locals := 28 } : Room)) (fun a U => a = #[(.ref a1), (.ref a2), (.int p3)] ∧ Z.Warmed39 U.vm ∧ U.heap = h0) (fun _ _ _ _ _ => True) (fun _ U o U' => ∃ v L, o = .returned v ∧ Q2 Z h0 n0 v U'.heap L ∧ FrameEnd U o U' L ({ frames := 2, cells := 0, slots := 0, locals := 28 } : Room).cells ({ frames := 2, cells := 0, slots := 0, locals := 28 } : Room).slots) := by
  refine MetFree.of_bodySF (plainFor_of_name pn_2) hisR ?_
  intro p e s m args below meth c s₁ Bd hml0 hP hK
  obtain ⟨rfl, hZ, hh⟩ := hP
  have hx := Bd.exec
  have hby := Bd.bytes
  have hml : c.maxLocals = 3 := hml0
  have hown : s.vm.findClass "com/example/libpiecewise/libpiecewise/TransformationMonoidPreimagesPinLaw" = some m.cls := findClass_of_methodNamed Bd.named
  have hnm := (name_of_methodNamed Bd.named Bd.method).1
  have X0 : Stand p l e ({ frames := 2, cells := 0, slots := 0, locals := 28 } : Room) s m #[(.ref a1), (.ref a2), (.int p3)] below meth c s₁ [] 0 0 := Stand.of_body Bd
  have e0 : s₁.heap = h0 := by rw [← hh, Bd.state]; rfl
  have N0 := Fr.nil n0
  have pre0 : ∀ t, Steps p.tables e below (s₁.setTop (mkF m 0 #[.val (.ref a1), .val (.ref a2), .val (.int p3)] [])) t → Steps p.tables e below (s₁.setTop (entryFrame m #[(.ref a1), (.ref a2), (.int p3)] 3)) t := fun t k => castTop (ef_2 m a1 a2 p3) k

  obtain ⟨fs, hr, hrun, hended, hW, hsame⟩ := X0.leave (v := some (.int (1 : Int32))) (fun h => by rw [Bd.returns] at h; cases h)
  refine ⟨_, _, pre0 _ ?_, hrun, hended, _, _, rfl, ?_, ⟨_, rfl⟩, hW, hsame.mono (by decide) (by decide)⟩
  · show Steps p.tables e below (s₁.setTop (mkF m 0 #[.val (.ref a1), .val (.ref a2), .val (.int p3)] [])) _
    refine XS.iloadN X0.here hx rfl (hb hby d2_0) rfl ?_
    show Steps p.tables e below (s₁.setTop (mkF m 1 #[.val (.ref a1), .val (.ref a2), .val (.int p3)] [(.int p3)])) _
    refine XS.aloadN X0.here hx rfl (hb hby d2_1) rfl rfl ?_
    show Steps p.tables e below (s₁.setTop (mkF m 2 #[.val (.ref a1), .val (.ref a2), .val (.int p3)] [(.ref a2), (.int p3)])) _
    refine X0.arraylength hx (by rw [e0]; exact Ar_a2.1) (State.isArrayOf_alike hZ.alike Ar_a2.2.1) (g := (mkF m 2 #[.val (.ref a1), .val (.ref a2), .val (.int p3)] [(.ref a2), (.int p3)])) rfl rfl (hb hby d2_2) _ ?_
    rw [len_of S_a2 N_a2]
    show Steps p.tables e below (s₁.setTop (mkF m 3 #[.val (.ref a1), .val (.ref a2), .val (.int p3)] [(.int z_a2), (.int p3)])) _
    refine XS.icmpNo X0.here hx rfl (hb hby d2_3) rfl (flt hc3).1 ?_
    show Steps p.tables e below (s₁.setTop (mkF m 6 #[.val (.ref a1), .val (.ref a2), .val (.int p3)] [])) _
    refine XS.iconst X0.here hx rfl (hb hby d2_6) ?_
    show Steps p.tables e below (s₁.setTop (mkF m 7 #[.val (.ref a1), .val (.ref a2), .val (.int p3)] [(.int (1 : Int32))])) _
    exact retN X0 hx (t := .boolean) Bd.returns (by simp) (hb hby d2_7) hr
  · show Q2 Z h0 n0 _ s₁.heap _
    rw [e0]
    exact ⟨rfl, N0, rfl⟩

set_option maxRecDepth 65536 in
set_option maxHeartbeats 40000000 in
theorem rm2_y (l : Launch) (Z : State) (a0 : Array Value) (hw : ∀ d ∈ tables_1, d.before a0 Z = true) (ws : List Jvm.Cond) (a2 : Addr) (p' : Nat) (rr : Addr) (kr : ClassId) (n : Nat) (tv : Nat → Nat) (r : Nat → Addr) (G : Nat → Nat → Int32) (h0 : Heap) (n0 : Nat) (Z0 : n0 ≤ h0.size) (hn : n ≤ 4) (hp : p' < n) (htv : ∀ j, j < n → tv j < n) (V : own_arr Z h0 a2 n (own_ft tv)) (RS : own_res Z h0 rr kr n tv r G) :
    MetFree l (⟨"com/example/libpiecewise/libpiecewise/TransformationMonoidPreimagesPinLaw", "rowOk", "([[I[II)Z"⟩ : MethodName) (head1 (Jvm.Cond.code (⟨"com/example/libpiecewise/libpiecewise/TransformationMonoidPreimagesPinLaw", "rowOk", "([[I[II)Z"⟩ : MethodName) method_6_code 3 (some .boolean) :: ws) ({ frames := 2, cells := 0, slots := 0, locals := 28 } : Room)) (fun a U => a = #[(.ref rr), (.ref a2), (.int (Int32.ofNat p'))] ∧ Z.Warmed39 U.vm ∧ U.heap = h0) (fun _ _ _ _ _ => True) (fun _ U o U' => ∃ v L, o = .returned v ∧ Q2 Z h0 n0 v U'.heap L ∧ FrameEnd U o U' L ({ frames := 2, cells := 0, slots := 0, locals := 28 } : Room).cells ({ frames := 2, cells := 0, slots := 0, locals := 28 } : Room).slots) := by
  refine MetFree.of_bodySF (plainFor_of_name pn_2) hisR ?_
  intro p e s m args below meth c s₁ Bd hml0 hP hK
  obtain ⟨rfl, hZ, hh⟩ := hP
  have hx := Bd.exec
  have hby := Bd.bytes
  have hml : c.maxLocals = 3 := hml0
  have hown : s.vm.findClass "com/example/libpiecewise/libpiecewise/TransformationMonoidPreimagesPinLaw" = some m.cls := findClass_of_methodNamed Bd.named
  have hnm := (name_of_methodNamed Bd.named Bd.method).1
  have X0 : Stand p l e ({ frames := 2, cells := 0, slots := 0, locals := 28 } : Room) s m #[(.ref rr), (.ref a2), (.int (Int32.ofNat p'))] below meth c s₁ [] 0 0 := Stand.of_body Bd
  have e0 : s₁.heap = h0 := by rw [← hh, Bd.state]; rfl
  have N0 := Fr.nil n0
  have pre0 : ∀ t, Steps p.tables e below (s₁.setTop (mkF m 0 #[.val (.ref rr), .val (.ref a2), .val (.int (Int32.ofNat p'))] [])) t → Steps p.tables e below (s₁.setTop (entryFrame m #[(.ref rr), (.ref a2), (.int (Int32.ofNat p'))] 3)) t := fun t k => castTop (ef_2 m rr a2 (Int32.ofNat p')) k
  obtain ⟨RR, RA, RG⟩ := RS
  obtain ⟨cl_a1, Ar_a1, -, Sr, Hr⟩ := RR
  have V' := V
  obtain ⟨cl_a2, Ar_a2, St, Ht⟩ := V'
  have S_a2 : cl_a2.slots.size = (Int32.ofNat n).toNatClampNeg := by rw [own_n32 (by omega)]; exact St
  have N_a2 := own_nn (i := n) (by omega)
  have hp2 := htv p' hp
  obtain ⟨cl_w, Ar_w, S_w, H_w⟩ := RA p' hp
  have hcl := own_cnt_le tv p' n
  have S_w' : cl_w.slots.size = (Int32.ofNat (own_cnt tv n p')).toNatClampNeg := by rw [own_n32 (by omega)]; exact S_w
  have N_w := own_nn (i := own_cnt tv n p') (by omega)
  have hin10 := own_in Sr hp (by omega)
  have hat10 : cl_a1.slots[(Int32.ofNat p').toNatClampNeg]? = some (.ref (r p')) := by rw [own_n32 (by omega)]; exact Hr p' hp
  have hin16 := hin10
  have hat16 := hat10
  have hc3 : Int32.ofNat p' < Int32.ofNat n := (own_lt_iff (by omega) (by omega)).2 hp
  obtain ⟨_, _, ⟨T6, L6, k6, n6⟩, -, X6, ⟨Lc6, hQ6, l6, y6, z6⟩, st6⟩ := Jvm.LawKit.callS X0 hx (y := (⟨"com/example/libpiecewise/libpiecewise/TransformationMonoidPreimagesPinLaw", "count", "([II)I"⟩ : MethodName)) hown (mvT hZ (hw _ (List.mem_of_getElem? (i := 19) rfl))) (mvT hZ (hw _ (List.mem_of_getElem? (i := 20) rfl))) (mvT hZ (hw _ (List.mem_of_getElem? (i := 10) rfl))) (mvT hZ (hw _ (List.mem_of_getElem? (i := 21) rfl))) (by decide) (backOf (W := 1) (rm5 l Z a0 hw [] a2 p' n tv h0 n0 Z0 hn (by omega) htv V) hZ (hw _ (List.mem_of_getElem? (i := 21) rfl)) (hw _ (List.mem_of_getElem? (i := 10) rfl)) (by decide) (by decide)) (g := (mkF m 20 #[.val (.ref rr), .val (.ref a2), .val (.int (Int32.ofNat p'))] [(.int (Int32.ofNat p')), (.ref a2), (.int (Int32.ofNat (own_cnt tv n p')))])) rfl (by rw [hml]; rfl) (argsL := [(.ref a2), (.int (Int32.ofNat p'))]) (rest := [(.int (Int32.ofNat (own_cnt tv n p')))]) (lenOf pd_2_3 rfl) rfl (by show 2 * 0 + _ ≤ _; exact Nat.le_of_eq rfl) (hb hby d2_20) (fun _ _ => ⟨rfl, e0, (by decide : 0 + 0 ≤ _), (by decide : 0 + 0 ≤ _)⟩)
  dsimp only [Pt.U, Pt.locs, Pt.cells, Pt.slots] at X6 l6 y6 z6 st6 hQ6
  subst l6 y6 z6
  obtain ⟨rfl, N6q, e6⟩ := hQ6      -- what it returned, that it wrote nothing old, and the rest of your Q5
  have N6 := Fr.app N0 N6q
  obtain ⟨fs, hr, hrun, hended, hW, hsame⟩ := X6.leave (v := some (.int (1 : Int32))) (fun h => by rw [Bd.returns] at h; cases h)
  refine ⟨_, _, pre0 _ ?_, hrun, hended, _, _, rfl, ?_, ⟨_, rfl⟩, hW, hsame.mono (by decide) (by decide)⟩
  · show Steps p.tables e below (s₁.setTop (mkF m 0 #[.val (.ref rr), .val (.ref a2), .val (.int (Int32.ofNat p'))] [])) _
    refine XS.iloadN X0.here hx rfl (hb hby d2_0) rfl ?_
    show Steps p.tables e below (s₁.setTop (mkF m 1 #[.val (.ref rr), .val (.ref a2), .val (.int (Int32.ofNat p'))] [(.int (Int32.ofNat p'))])) _
    refine XS.aloadN X0.here hx rfl (hb hby d2_1) rfl rfl ?_
    show Steps p.tables e below (s₁.setTop (mkF m 2 #[.val (.ref rr), .val (.ref a2), .val (.int (Int32.ofNat p'))] [(.ref a2), (.int (Int32.ofNat p'))])) _
    refine X0.arraylength hx (by rw [e0]; exact Ar_a2.1) (State.isArrayOf_alike hZ.alike Ar_a2.2.1) (g := (mkF m 2 #[.val (.ref rr), .val (.ref a2), .val (.int (Int32.ofNat p'))] [(.ref a2), (.int (Int32.ofNat p'))])) rfl rfl (hb hby d2_2) _ ?_
    rw [len_of S_a2 N_a2]
    show Steps p.tables e below (s₁.setTop (mkF m 3 #[.val (.ref rr), .val (.ref a2), .val (.int (Int32.ofNat p'))] [(.int (Int32.ofNat n)), (.int (Int32.ofNat p'))])) _
    refine XS.icmpYes X0.here hx rfl (pc0 := 3) (pc' := 8) rfl (hb hby d2_3) rfl (tlt hc3).1 (by decide) (by decide) ?_
    show Steps p.tables e below (s₁.setTop (mkF m 8 #[.val (.ref rr), .val (.ref a2), .val (.int (Int32.ofNat p'))] [])) _
    refine XS.aloadN X0.here hx rfl (hb hby d2_8) rfl rfl ?_
    show Steps p.tables e below (s₁.setTop (mkF m 9 #[.val (.ref rr), .val (.ref a2), .val (.int (Int32.ofNat p'))] [(.ref rr)])) _
    refine XS.iloadN X0.here hx rfl (hb hby d2_9) rfl ?_
    show Steps p.tables e below (s₁.setTop (mkF m 10 #[.val (.ref rr), .val (.ref a2), .val (.int (Int32.ofNat p'))] [(.int (Int32.ofNat p')), (.ref rr)])) _
    refine X0.aaload hx (j := (Int32.ofNat p')) (v := (.ref (r p'))) (by rw [e0]; exact Ar_a1.1) (State.isArrayOf_alike hZ.alike Ar_a1.2.1) rfl Ar_a1.2.2 hin10 hat10 (g := (mkF m 10 #[.val (.ref rr), .val (.ref a2), .val (.int (Int32.ofNat p'))] [(.int (Int32.ofNat p')), (.ref rr)])) rfl rfl (hb hby d2_10) _ ?_
    show Steps p.tables e below (s₁.setTop (mkF m 11 #[.val (.ref rr), .val (.ref a2), .val (.int (Int32.ofNat p'))] [(.ref (r p'))])) _
    refine XS.ifnullNo X0.here hx rfl (hb hby d2_11) rfl ?_
    show Steps p.tables e below (s₁.setTop (mkF m 14 #[.val (.ref rr), .val (.ref a2), .val (.int (Int32.ofNat p'))] [])) _
    refine XS.aloadN X0.here hx rfl (hb hby d2_14) rfl rfl ?_
    show Steps p.tables e below (s₁.setTop (mkF m 15 #[.val (.ref rr), .val (.ref a2), .val (.int (Int32.ofNat p'))] [(.ref rr)])) _
    refine XS.iloadN X0.here hx rfl (hb hby d2_15) rfl ?_
    show Steps p.tables e below (s₁.setTop (mkF m 16 #[.val (.ref rr), .val (.ref a2), .val (.int (Int32.ofNat p'))] [(.int (Int32.ofNat p')), (.ref rr)])) _
    refine X0.aaload hx (j := (Int32.ofNat p')) (v := (.ref (r p'))) (by rw [e0]; exact Ar_a1.1) (State.isArrayOf_alike hZ.alike Ar_a1.2.1) rfl Ar_a1.2.2 hin16 hat16 (g := (mkF m 16 #[.val (.ref rr), .val (.ref a2), .val (.int (Int32.ofNat p'))] [(.int (Int32.ofNat p')), (.ref rr)])) rfl rfl (hb hby d2_16) _ ?_
    show Steps p.tables e below (s₁.setTop (mkF m 17 #[.val (.ref rr), .val (.ref a2), .val (.int (Int32.ofNat p'))] [(.ref (r p'))])) _
    refine X0.arraylength hx (by rw [e0]; exact Ar_w.1) (State.isArrayOf_alike hZ.alike Ar_w.2.1) (g := (mkF m 17 #[.val (.ref rr), .val (.ref a2), .val (.int (Int32.ofNat p'))] [(.ref (r p'))])) rfl rfl (hb hby d2_17) _ ?_
    rw [len_of S_w' N_w]
    show Steps p.tables e below (s₁.setTop (mkF m 18 #[.val (.ref rr), .val (.ref a2), .val (.int (Int32.ofNat p'))] [(.int (Int32.ofNat (own_cnt tv n p')))])) _
    refine XS.aloadN X0.here hx rfl (hb hby d2_18) rfl rfl ?_
    show Steps p.tables e below (s₁.setTop (mkF m 19 #[.val (.ref rr), .val (.ref a2), .val (.int (Int32.ofNat p'))] [(.ref a2), (.int (Int32.ofNat (own_cnt tv n p')))])) _
    refine XS.iloadN X0.here hx rfl (hb hby d2_19) rfl ?_
    show Steps p.tables e below (s₁.setTop (mkF m 20 #[.val (.ref rr), .val (.ref a2), .val (.int (Int32.ofNat p'))] [(.int (Int32.ofNat p')), (.ref a2), (.int (Int32.ofNat (own_cnt tv n p')))])) _
    refine st6 _ ?_
    show Steps p.tables e below (T6.setTop (mkF m 23 #[.val (.ref rr), .val (.ref a2), .val (.int (Int32.ofNat p'))] [(.int (Int32.ofNat (own_cnt tv n p'))), (.int (Int32.ofNat (own_cnt tv n p')))])) _
    refine XS.icmpNo X6.here hx rfl (hb hby d2_23) rfl (teq (rfl : (Int32.ofNat (own_cnt tv n p')) = (Int32.ofNat (own_cnt tv n p')))).2 ?_
    show Steps p.tables e below (T6.setTop (mkF m 26 #[.val (.ref rr), .val (.ref a2), .val (.int (Int32.ofNat p'))] [])) _
    refine XS.iconst X6.here hx rfl (hb hby d2_26) ?_
    show Steps p.tables e below (T6.setTop (mkF m 27 #[.val (.ref rr), .val (.ref a2), .val (.int (Int32.ofNat p'))] [(.int (1 : Int32))])) _
    refine XS.goto X6.here hx rfl (pc0 := 27) (pc' := 31) rfl (hb hby d2_27) (by decide) (by decide) ?_
    show Steps p.tables e below (T6.setTop (mkF m 31 #[.val (.ref rr), .val (.ref a2), .val (.int (Int32.ofNat p'))] [(.int (1 : Int32))])) _
    exact retN X6 hx (t := .boolean) Bd.returns (by simp) (hb hby d2_31) hr
  · show Q2 Z h0 n0 _ T6.heap _
    exact ⟨rfl, N6, e6⟩

theorem rm2 (l : Launch) (Z : State) (a0 : Array Value) (hw : ∀ d ∈ tables_1, d.before a0 Z = true) (ws : List Jvm.Cond) (a2 : Addr) (p' : Nat) (rr : Addr) (kr : ClassId) (n : Nat) (tv : Nat → Nat) (r : Nat → Addr) (G : Nat → Nat → Int32) (h0 : Heap) (n0 : Nat) (Z0 : n0 ≤ h0.size) (hn : n ≤ 4) (hp : p' ≤ 3) (htv : ∀ j, j < n → tv j < n) (V : own_arr Z h0 a2 n (own_ft tv)) (RS : own_res Z h0 rr kr n tv r G) :
    MetFree l (⟨"com/example/libpiecewise/libpiecewise/TransformationMonoidPreimagesPinLaw", "rowOk", "([[I[II)Z"⟩ : MethodName) (head1 (Jvm.Cond.code (⟨"com/example/libpiecewise/libpiecewise/TransformationMonoidPreimagesPinLaw", "rowOk", "([[I[II)Z"⟩ : MethodName) method_6_code 3 (some .boolean) :: ws) ({ frames := 2, cells := 0, slots := 0, locals := 28 } : Room)) (fun a U => a = #[(.ref rr), (.ref a2), (.int (Int32.ofNat p'))] ∧ Z.Warmed39 U.vm ∧ U.heap = h0) (fun _ _ _ _ _ => True) (fun _ U o U' => ∃ v L, o = .returned v ∧ Q2 Z h0 n0 v U'.heap L ∧ FrameEnd U o U' L ({ frames := 2, cells := 0, slots := 0, locals := 28 } : Room).cells ({ frames := 2, cells := 0, slots := 0, locals := 28 } : Room).slots) := by
  by_cases h : p' < n
  · exact rm2_y l Z a0 hw ws a2 p' rr kr n tv r G h0 n0 Z0 hn h htv V RS
  · obtain ⟨cl, Ar, S, H⟩ := V
    have S' : cl.slots.size = (Int32.ofNat n).toNatClampNeg := by rw [own_n32 (by omega)]; exact S
    exact rm2_n l Z a0 hw ws rr a2 (Int32.ofNat p') cl (Int32.ofNat n) h0 n0 Z0 Ar S' (own_nn (by omega)) (fun q => h ((own_lt_iff (by omega) (by omega)).1 q))
theorem d3_0 : decode method_7_code 0 = .ok (.iload_n 2, 1) := by decide +kernel
theorem d3_1 : decode method_7_code 1 = .ok (.aload_n 1, 1) := by decide +kernel
theorem d3_2 : decode method_7_code 2 = .ok (.arraylength, 1) := by decide +kernel
theorem d3_3 : decode method_7_code 3 = .ok (.if_icmp .lt 5, 3) := by decide +kernel
theorem d3_6 : decode method_7_code 6 = .ok (.iconst 1, 1) := by decide +kernel
theorem d3_7 : decode method_7_code 7 = .ok (.ireturn, 1) := by decide +kernel
theorem pn_3 : plainName "com/example/libpiecewise/libpiecewise/TransformationMonoidPreimagesPinLaw" = true := by first | (simp [plainName, overriddenIn]; done) | decide +kernel
theorem ef_3 (m : MethodId) (x0 : Addr) (x1 : Addr) (x2 : Int32) : entryFrame m #[(.ref x0), (.ref x1), (.int x2)] 3 = mkF m 0 #[.val (.ref x0), .val (.ref x1), .val (.int x2)] [] := by first | (simp [entryFrame, mkF, argsToLocals, Value.category]; done) | rfl
theorem d3_8 : decode method_7_code 8 = .ok (.aload_n 0, 1) := by decide +kernel
theorem d3_9 : decode method_7_code 9 = .ok (.aload_n 1, 1) := by decide +kernel
theorem d3_10 : decode method_7_code 10 = .ok (.iload_n 2, 1) := by decide +kernel
theorem d3_11 : decode method_7_code 11 = .ok (.iaload, 1) := by decide +kernel
theorem d3_12 : decode method_7_code 12 = .ok (.aaload, 1) := by decide +kernel
theorem d3_13 : decode method_7_code 13 = .ok (.aload_n 1, 1) := by decide +kernel
theorem d3_14 : decode method_7_code 14 = .ok (.iload_n 2, 1) := by decide +kernel
theorem d3_15 : decode method_7_code 15 = .ok (.invokestatic 17, 3) := by decide +kernel
theorem d3_18 : decode method_7_code 18 = .ok (.iaload, 1) := by decide +kernel
theorem d3_19 : decode method_7_code 19 = .ok (.iload_n 2, 1) := by decide +kernel
theorem d3_20 : decode method_7_code 20 = .ok (.if_icmp .ne 7, 3) := by decide +kernel
theorem d3_23 : decode method_7_code 23 = .ok (.iconst 1, 1) := by decide +kernel
theorem d3_24 : decode method_7_code 24 = .ok (.goto 4, 3) := by decide +kernel
theorem d3_28 : decode method_7_code 28 = .ok (.ireturn, 1) := by decide +kernel
theorem pd_3_3 : parseMethodDescriptor "([II)I" = some ⟨[(.array .int), .int], some .int⟩ := by decide +kernel
def Q3 (Z : State) (h0 : Heap) (n0 : Nat) (v : Option Value) (h : Heap) (L : List Loc) : Prop := v = some (.int (1 : Int32)) ∧ Fr n0 L ∧ h = h0
set_option maxRecDepth 65536 in
set_option maxHeartbeats 40000000 in
theorem rm3_n (l : Launch) (Z : State) (a0 : Array Value) (hw : ∀ d ∈ tables_1, d.before a0 Z = true) (ws : List Jvm.Cond) (a1 : Addr) (a2 : Addr) (p3 : Int32) (cl_a2 : Cell) (z_a2 : Int32) (h0 : Heap) (n0 : Nat) (Z0 : n0 ≤ h0.size) (Ar_a2 : Arr Z h0 a2 cl_a2 .int) (S_a2 : cl_a2.slots.size = z_a2.toNatClampNeg) (N_a2 : ¬ z_a2 < 0) (hc3 : ¬ (p3 < z_a2)) :
    MetFree l (⟨"com/example/libpiecewise/libpiecewise/TransformationMonoidPreimagesPinLaw", "placeOk", "([[I[II)Z"⟩ : MethodName) (head1 (Jvm.Cond.code (⟨"com/example/libpiecewise/libpiecewise/TransformationMonoidPreimagesPinLaw", "placeOk", "([[I[II)Z"⟩ : MethodName) method_7_code 3 (some .boolean) :: ws) ({ frames := 1, cells := 0, slots := 0, locals := 16 } : Room)) (fun a U => a = #[(.ref a1), (.ref a2), (.int p3)] ∧ Z.Warmed39 U.vm ∧ U.heap = h0) (fun _ _ _ _ _ => True) (fun _ U o U' => ∃ v L, o = .returned v ∧ Q3 Z h0 n0 v U'.heap L ∧ FrameEnd U o U' L ({ frames := 1, cells := 0, slots := 0, locals := 16 } : Room).cells ({ frames := 1, cells := 0, slots := 0, locals := 16 } : Room).slots) := by
  refine MetFree.of_bodySF (plainFor_of_name pn_3) hisR ?_
  intro p e s m args below meth c s₁ Bd hml0 hP hK
  obtain ⟨rfl, hZ, hh⟩ := hP
  have hx := Bd.exec
  have hby := Bd.bytes
  have hml : c.maxLocals = 3 := hml0
  have hown : s.vm.findClass "com/example/libpiecewise/libpiecewise/TransformationMonoidPreimagesPinLaw" = some m.cls := findClass_of_methodNamed Bd.named
  have hnm := (name_of_methodNamed Bd.named Bd.method).1
  have X0 : Stand p l e ({ frames := 1, cells := 0, slots := 0, locals := 16 } : Room) s m #[(.ref a1), (.ref a2), (.int p3)] below meth c s₁ [] 0 0 := Stand.of_body Bd
  have e0 : s₁.heap = h0 := by rw [← hh, Bd.state]; rfl
  have N0 := Fr.nil n0
  have pre0 : ∀ t, Steps p.tables e below (s₁.setTop (mkF m 0 #[.val (.ref a1), .val (.ref a2), .val (.int p3)] [])) t → Steps p.tables e below (s₁.setTop (entryFrame m #[(.ref a1), (.ref a2), (.int p3)] 3)) t := fun t k => castTop (ef_3 m a1 a2 p3) k

  obtain ⟨fs, hr, hrun, hended, hW, hsame⟩ := X0.leave (v := some (.int (1 : Int32))) (fun h => by rw [Bd.returns] at h; cases h)
  refine ⟨_, _, pre0 _ ?_, hrun, hended, _, _, rfl, ?_, ⟨_, rfl⟩, hW, hsame.mono (by decide) (by decide)⟩
  · show Steps p.tables e below (s₁.setTop (mkF m 0 #[.val (.ref a1), .val (.ref a2), .val (.int p3)] [])) _
    refine XS.iloadN X0.here hx rfl (hb hby d3_0) rfl ?_
    show Steps p.tables e below (s₁.setTop (mkF m 1 #[.val (.ref a1), .val (.ref a2), .val (.int p3)] [(.int p3)])) _
    refine XS.aloadN X0.here hx rfl (hb hby d3_1) rfl rfl ?_
    show Steps p.tables e below (s₁.setTop (mkF m 2 #[.val (.ref a1), .val (.ref a2), .val (.int p3)] [(.ref a2), (.int p3)])) _
    refine X0.arraylength hx (by rw [e0]; exact Ar_a2.1) (State.isArrayOf_alike hZ.alike Ar_a2.2.1) (g := (mkF m 2 #[.val (.ref a1), .val (.ref a2), .val (.int p3)] [(.ref a2), (.int p3)])) rfl rfl (hb hby d3_2) _ ?_
    rw [len_of S_a2 N_a2]
    show Steps p.tables e below (s₁.setTop (mkF m 3 #[.val (.ref a1), .val (.ref a2), .val (.int p3)] [(.int z_a2), (.int p3)])) _
    refine XS.icmpNo X0.here hx rfl (hb hby d3_3) rfl (flt hc3).1 ?_
    show Steps p.tables e below (s₁.setTop (mkF m 6 #[.val (.ref a1), .val (.ref a2), .val (.int p3)] [])) _
    refine XS.iconst X0.here hx rfl (hb hby d3_6) ?_
    show Steps p.tables e below (s₁.setTop (mkF m 7 #[.val (.ref a1), .val (.ref a2), .val (.int p3)] [(.int (1 : Int32))])) _
    exact retN X0 hx (t := .boolean) Bd.returns (by simp) (hb hby d3_7) hr
  · show Q3 Z h0 n0 _ s₁.heap _
    rw [e0]
    exact ⟨rfl, N0, rfl⟩

set_option maxRecDepth 65536 in
set_option maxHeartbeats 40000000 in
theorem rm3_y (l : Launch) (Z : State) (a0 : Array Value) (hw : ∀ d ∈ tables_1, d.before a0 Z = true) (ws : List Jvm.Cond) (a2 : Addr) (p' : Nat) (rr : Addr) (kr : ClassId) (n : Nat) (tv : Nat → Nat) (r : Nat → Addr) (G : Nat → Nat → Int32) (h0 : Heap) (n0 : Nat) (Z0 : n0 ≤ h0.size) (hn : n ≤ 4) (hp : p' < n) (htv : ∀ j, j < n → tv j < n) (V : own_arr Z h0 a2 n (own_ft tv)) (RS : own_res Z h0 rr kr n tv r G) :
    MetFree l (⟨"com/example/libpiecewise/libpiecewise/TransformationMonoidPreimagesPinLaw", "placeOk", "([[I[II)Z"⟩ : MethodName) (head1 (Jvm.Cond.code (⟨"com/example/libpiecewise/libpiecewise/TransformationMonoidPreimagesPinLaw", "placeOk", "([[I[II)Z"⟩ : MethodName) method_7_code 3 (some .boolean) :: ws) ({ frames := 1, cells := 0, slots := 0, locals := 16 } : Room)) (fun a U => a = #[(.ref rr), (.ref a2), (.int (Int32.ofNat p'))] ∧ Z.Warmed39 U.vm ∧ U.heap = h0) (fun _ _ _ _ _ => True) (fun _ U o U' => ∃ v L, o = .returned v ∧ Q3 Z h0 n0 v U'.heap L ∧ FrameEnd U o U' L ({ frames := 1, cells := 0, slots := 0, locals := 16 } : Room).cells ({ frames := 1, cells := 0, slots := 0, locals := 16 } : Room).slots) := by
  refine MetFree.of_bodySF (plainFor_of_name pn_3) hisR ?_
  intro p e s m args below meth c s₁ Bd hml0 hP hK
  obtain ⟨rfl, hZ, hh⟩ := hP
  have hx := Bd.exec
  have hby := Bd.bytes
  have hml : c.maxLocals = 3 := hml0
  have hown : s.vm.findClass "com/example/libpiecewise/libpiecewise/TransformationMonoidPreimagesPinLaw" = some m.cls := findClass_of_methodNamed Bd.named
  have hnm := (name_of_methodNamed Bd.named Bd.method).1
  have X0 : Stand p l e ({ frames := 1, cells := 0, slots := 0, locals := 16 } : Room) s m #[(.ref rr), (.ref a2), (.int (Int32.ofNat p'))] below meth c s₁ [] 0 0 := Stand.of_body Bd
  have e0 : s₁.heap = h0 := by rw [← hh, Bd.state]; rfl
  have N0 := Fr.nil n0
  have pre0 : ∀ t, Steps p.tables e below (s₁.setTop (mkF m 0 #[.val (.ref rr), .val (.ref a2), .val (.int (Int32.ofNat p'))] [])) t → Steps p.tables e below (s₁.setTop (entryFrame m #[(.ref rr), (.ref a2), (.int (Int32.ofNat p'))] 3)) t := fun t k => castTop (ef_3 m rr a2 (Int32.ofNat p')) k
  obtain ⟨RR, RA, RG⟩ := RS
  obtain ⟨cl_a1, Ar_a1, -, Sr, Hr⟩ := RR
  have V' := V
  obtain ⟨cl_a2, Ar_a2, St, Ht⟩ := V'
  have S_a2 : cl_a2.slots.size = (Int32.ofNat n).toNatClampNeg := by rw [own_n32 (by omega)]; exact St
  have N_a2 := own_nn (i := n) (by omega)
  have hp2 := htv p' hp
  obtain ⟨cl_w, Ar_w, S_w, H_w⟩ := RA (tv p') hp2
  have hlt := own_cnt_lt tv (tv p') p' n hp rfl
  have hle := own_cnt_le tv (tv p') n
  have hin11 := own_in St hp (by omega)
  have hat11 : cl_a2.slots[(Int32.ofNat p').toNatClampNeg]? = some (.int (Int32.ofNat (tv p'))) := own_hat Ht hp (by omega)
  have hin12 := own_in Sr hp2 (by omega)
  have hat12 : cl_a1.slots[(Int32.ofNat (tv p')).toNatClampNeg]? = some (.ref (r (tv p'))) := by rw [own_n32 (by omega)]; exact Hr (tv p') hp2
  have hc3 : Int32.ofNat p' < Int32.ofNat n := (own_lt_iff (by omega) (by omega)).2 hp
  have hc20 : Int32.ofNat p' = Int32.ofNat p' := rfl
  have hin18 := own_in S_w hlt (by omega)
  have hat18 : cl_w.slots[(Int32.ofNat (own_cnt tv p' (tv p'))).toNatClampNeg]? = some (.int (Int32.ofNat p')) := by rw [own_hat H_w hlt (by omega), RG p' hp]
  obtain ⟨_, _, ⟨T6, L6, k6, n6⟩, -, X6, ⟨Lc6, hQ6, l6, y6, z6⟩, st6⟩ := Jvm.LawKit.callS X0 hx (y := (⟨"com/example/libpiecewise/libpiecewise/TransformationMonoidPreimagesPinLaw", "rank", "([II)I"⟩ : MethodName)) hown (mvT hZ (hw _ (List.mem_of_getElem? (i := 25) rfl))) (mvT hZ (hw _ (List.mem_of_getElem? (i := 26) rfl))) (mvT hZ (hw _ (List.mem_of_getElem? (i := 10) rfl))) (mvT hZ (hw _ (List.mem_of_getElem? (i := 27) rfl))) (by decide) (backOf (W := 1) (rm7 l Z a0 hw [] a2 p' n tv h0 n0 Z0 hn hp htv V) hZ (hw _ (List.mem_of_getElem? (i := 27) rfl)) (hw _ (List.mem_of_getElem? (i := 10) rfl)) (by decide) (by decide)) (g := (mkF m 15 #[.val (.ref rr), .val (.ref a2), .val (.int (Int32.ofNat p'))] [(.int (Int32.ofNat p')), (.ref a2), (.ref (r (tv p')))])) rfl (by rw [hml]; rfl) (argsL := [(.ref a2), (.int (Int32.ofNat p'))]) (rest := [(.ref (r (tv p')))]) (lenOf pd_3_3 rfl) rfl (by show 2 * 0 + _ ≤ _; exact Nat.le_of_eq rfl) (hb hby d3_15) (fun _ _ => ⟨rfl, e0, (by decide : 0 + 0 ≤ _), (by decide : 0 + 0 ≤ _)⟩)
  dsimp only [Pt.U, Pt.locs, Pt.cells, Pt.slots] at X6 l6 y6 z6 st6 hQ6
  subst l6 y6 z6
  obtain ⟨rfl, N6q, e6⟩ := hQ6      -- what it returned, that it wrote nothing old, and the rest of your Q7
  have N6 := Fr.app N0 N6q
  obtain ⟨fs, hr, hrun, hended, hW, hsame⟩ := X6.leave (v := some (.int (1 : Int32))) (fun h => by rw [Bd.returns] at h; cases h)
  refine ⟨_, _, pre0 _ ?_, hrun, hended, _, _, rfl, ?_, ⟨_, rfl⟩, hW, hsame.mono (by decide) (by decide)⟩
  · show Steps p.tables e below (s₁.setTop (mkF m 0 #[.val (.ref rr), .val (.ref a2), .val (.int (Int32.ofNat p'))] [])) _
    refine XS.iloadN X0.here hx rfl (hb hby d3_0) rfl ?_
    show Steps p.tables e below (s₁.setTop (mkF m 1 #[.val (.ref rr), .val (.ref a2), .val (.int (Int32.ofNat p'))] [(.int (Int32.ofNat p'))])) _
    refine XS.aloadN X0.here hx rfl (hb hby d3_1) rfl rfl ?_
    show Steps p.tables e below (s₁.setTop (mkF m 2 #[.val (.ref rr), .val (.ref a2), .val (.int (Int32.ofNat p'))] [(.ref a2), (.int (Int32.ofNat p'))])) _
    refine X0.arraylength hx (by rw [e0]; exact Ar_a2.1) (State.isArrayOf_alike hZ.alike Ar_a2.2.1) (g := (mkF m 2 #[.val (.ref rr), .val (.ref a2), .val (.int (Int32.ofNat p'))] [(.ref a2), (.int (Int32.ofNat p'))])) rfl rfl (hb hby d3_2) _ ?_
    rw [len_of S_a2 N_a2]
    show Steps p.tables e below (s₁.setTop (mkF m 3 #[.val (.ref rr), .val (.ref a2), .val (.int (Int32.ofNat p'))] [(.int (Int32.ofNat n)), (.int (Int32.ofNat p'))])) _
    refine XS.icmpYes X0.here hx rfl (pc0 := 3) (pc' := 8) rfl (hb hby d3_3) rfl (tlt hc3).1 (by decide) (by decide) ?_
    show Steps p.tables e below (s₁.setTop (mkF m 8 #[.val (.ref rr), .val (.ref a2), .val (.int (Int32.ofNat p'))] [])) _
    refine XS.aloadN X0.here hx rfl (hb hby d3_8) rfl rfl ?_
    show Steps p.tables e below (s₁.setTop (mkF m 9 #[.val (.ref rr), .val (.ref a2), .val (.int (Int32.ofNat p'))] [(.ref rr)])) _
    refine XS.aloadN X0.here hx rfl (hb hby d3_9) rfl rfl ?_
    show Steps p.tables e below (s₁.setTop (mkF m 10 #[.val (.ref rr), .val (.ref a2), .val (.int (Int32.ofNat p'))] [(.ref a2), (.ref rr)])) _
    refine XS.iloadN X0.here hx rfl (hb hby d3_10) rfl ?_
    show Steps p.tables e below (s₁.setTop (mkF m 11 #[.val (.ref rr), .val (.ref a2), .val (.int (Int32.ofNat p'))] [(.int (Int32.ofNat p')), (.ref a2), (.ref rr)])) _
    refine X0.iaload hx (j := (Int32.ofNat p')) (v := (.int (Int32.ofNat (tv p')))) (by rw [e0]; exact Ar_a2.1) (State.isArrayOf_alike hZ.alike Ar_a2.2.1) Ar_a2.2.2 hin11 hat11 (g := (mkF m 11 #[.val (.ref rr), .val (.ref a2), .val (.int (Int32.ofNat p'))] [(.int (Int32.ofNat p')), (.ref a2), (.ref rr)])) rfl rfl (hb hby d3_11) _ ?_
    show Steps p.tables e below (s₁.setTop (mkF m 12 #[.val (.ref rr), .val (.ref a2), .val (.int (Int32.ofNat p'))] [(.int (Int32.ofNat (tv p'))), (.ref rr)])) _
    refine X0.aaload hx (j := (Int32.ofNat (tv p'))) (v := (.ref (r (tv p')))) (by rw [e0]; exact Ar_a1.1) (State.isArrayOf_alike hZ.alike Ar_a1.2.1) rfl Ar_a1.2.2 hin12 hat12 (g := (mkF m 12 #[.val (.ref rr), .val (.ref a2), .val (.int (Int32.ofNat p'))] [(.int (Int32.ofNat (tv p'))), (.ref rr)])) rfl rfl (hb hby d3_12) _ ?_
    show Steps p.tables e below (s₁.setTop (mkF m 13 #[.val (.ref rr), .val (.ref a2), .val (.int (Int32.ofNat p'))] [(.ref (r (tv p')))])) _
    refine XS.aloadN X0.here hx rfl (hb hby d3_13) rfl rfl ?_
    show Steps p.tables e below (s₁.setTop (mkF m 14 #[.val (.ref rr), .val (.ref a2), .val (.int (Int32.ofNat p'))] [(.ref a2), (.ref (r (tv p')))])) _
    refine XS.iloadN X0.here hx rfl (hb hby d3_14) rfl ?_
    show Steps p.tables e below (s₁.setTop (mkF m 15 #[.val (.ref rr), .val (.ref a2), .val (.int (Int32.ofNat p'))] [(.int (Int32.ofNat p')), (.ref a2), (.ref (r (tv p')))])) _
    refine st6 _ ?_
    show Steps p.tables e below (T6.setTop (mkF m 18 #[.val (.ref rr), .val (.ref a2), .val (.int (Int32.ofNat p'))] [(.int (Int32.ofNat (own_cnt tv p' (tv p')))), (.ref (r (tv p')))])) _
    refine X6.iaload hx (j := (Int32.ofNat (own_cnt tv p' (tv p')))) (v := (.int (Int32.ofNat p'))) (by rw [e6]; exact Ar_w.1) (State.isArrayOf_alike hZ.alike Ar_w.2.1) Ar_w.2.2 hin18 hat18 (g := (mkF m 18 #[.val (.ref rr), .val (.ref a2), .val (.int (Int32.ofNat p'))] [(.int (Int32.ofNat (own_cnt tv p' (tv p')))), (.ref (r (tv p')))])) rfl rfl (hb hby d3_18) _ ?_
    show Steps p.tables e below (T6.setTop (mkF m 19 #[.val (.ref rr), .val (.ref a2), .val (.int (Int32.ofNat p'))] [(.int (Int32.ofNat p'))])) _
    refine XS.iloadN X6.here hx rfl (hb hby d3_19) rfl ?_
    show Steps p.tables e below (T6.setTop (mkF m 20 #[.val (.ref rr), .val (.ref a2), .val (.int (Int32.ofNat p'))] [(.int (Int32.ofNat p')), (.int (Int32.ofNat p'))])) _
    refine XS.icmpNo X6.here hx rfl (hb hby d3_20) rfl (teq hc20).2 ?_
    show Steps p.tables e below (T6.setTop (mkF m 23 #[.val (.ref rr), .val (.ref a2), .val (.int (Int32.ofNat p'))] [])) _
    refine XS.iconst X6.here hx rfl (hb hby d3_23) ?_
    show Steps p.tables e below (T6.setTop (mkF m 24 #[.val (.ref rr), .val (.ref a2), .val (.int (Int32.ofNat p'))] [(.int (1 : Int32))])) _
    refine XS.goto X6.here hx rfl (pc0 := 24) (pc' := 28) rfl (hb hby d3_24) (by decide) (by decide) ?_
    show Steps p.tables e below (T6.setTop (mkF m 28 #[.val (.ref rr), .val (.ref a2), .val (.int (Int32.ofNat p'))] [(.int (1 : Int32))])) _
    exact retN X6 hx (t := .boolean) Bd.returns (by simp) (hb hby d3_28) hr
  · show Q3 Z h0 n0 _ T6.heap _
    exact ⟨rfl, N6, e6⟩

theorem rm3 (l : Launch) (Z : State) (a0 : Array Value) (hw : ∀ d ∈ tables_1, d.before a0 Z = true) (ws : List Jvm.Cond) (a2 : Addr) (p' : Nat) (rr : Addr) (kr : ClassId) (n : Nat) (tv : Nat → Nat) (r : Nat → Addr) (G : Nat → Nat → Int32) (h0 : Heap) (n0 : Nat) (Z0 : n0 ≤ h0.size) (hn : n ≤ 4) (hp : p' ≤ 3) (htv : ∀ j, j < n → tv j < n) (V : own_arr Z h0 a2 n (own_ft tv)) (RS : own_res Z h0 rr kr n tv r G) :
    MetFree l (⟨"com/example/libpiecewise/libpiecewise/TransformationMonoidPreimagesPinLaw", "placeOk", "([[I[II)Z"⟩ : MethodName) (head1 (Jvm.Cond.code (⟨"com/example/libpiecewise/libpiecewise/TransformationMonoidPreimagesPinLaw", "placeOk", "([[I[II)Z"⟩ : MethodName) method_7_code 3 (some .boolean) :: ws) ({ frames := 1, cells := 0, slots := 0, locals := 16 } : Room)) (fun a U => a = #[(.ref rr), (.ref a2), (.int (Int32.ofNat p'))] ∧ Z.Warmed39 U.vm ∧ U.heap = h0) (fun _ _ _ _ _ => True) (fun _ U o U' => ∃ v L, o = .returned v ∧ Q3 Z h0 n0 v U'.heap L ∧ FrameEnd U o U' L ({ frames := 1, cells := 0, slots := 0, locals := 16 } : Room).cells ({ frames := 1, cells := 0, slots := 0, locals := 16 } : Room).slots) := by
  by_cases h : p' < n
  · exact rm3_y l Z a0 hw ws a2 p' rr kr n tv r G h0 n0 Z0 hn h htv V RS
  · obtain ⟨cl, Ar, S, H⟩ := V
    have S' : cl.slots.size = (Int32.ofNat n).toNatClampNeg := by rw [own_n32 (by omega)]; exact S
    exact rm3_n l Z a0 hw ws rr a2 (Int32.ofNat p') cl (Int32.ofNat n) h0 n0 Z0 Ar S' (own_nn (by omega)) (fun q => h ((own_lt_iff (by omega) (by omega)).1 q))
theorem d1_13 : decode prog_103_method_23_code 13 = .ok (.iload 4, 2) := by decide +kernel
theorem d1_15 : decode prog_103_method_23_code 15 = .ok (.iload_n 3, 1) := by decide +kernel
theorem d1_16 : decode prog_103_method_23_code 16 = .ok (.if_icmp .ge 23, 3) := by decide +kernel
theorem d1_19 : decode prog_103_method_23_code 19 = .ok (.aload_n 2, 1) := by decide +kernel
theorem d1_20 : decode prog_103_method_23_code 20 = .ok (.iload 4, 2) := by decide +kernel
theorem d1_22 : decode prog_103_method_23_code 22 = .ok (.iaload, 1) := by decide +kernel
theorem d1_23 : decode prog_103_method_23_code 23 = .ok (.istore 5, 2) := by decide +kernel
theorem d1_25 : decode prog_103_method_23_code 25 = .ok (.aload_n 1, 1) := by decide +kernel
theorem d1_26 : decode prog_103_method_23_code 26 = .ok (.iload 5, 2) := by decide +kernel
theorem d1_28 : decode prog_103_method_23_code 28 = .ok (.dup2, 1) := by decide +kernel
theorem d1_29 : decode prog_103_method_23_code 29 = .ok (.iaload, 1) := by decide +kernel
theorem d1_30 : decode prog_103_method_23_code 30 = .ok (.iconst 1, 1) := by decide +kernel
theorem d1_31 : decode prog_103_method_23_code 31 = .ok (.iadd, 1) := by decide +kernel
theorem d1_32 : decode prog_103_method_23_code 32 = .ok (.iastore, 1) := by decide +kernel
theorem d1_33 : decode prog_103_method_23_code 33 = .ok (.iinc 4 1, 3) := by decide +kernel
theorem d1_36 : decode prog_103_method_23_code 36 = .ok (.goto (-23), 3) := by decide +kernel
theorem os1_23 {s0 : Slot} {z1 : Value} {z2 : Value} {z3 : Value} {z4 : Value} {s5 : Slot} {v : Int32} (h : One s5) : storeLocals #[s0, .val z1, .val z2, .val z3, .val z4, s5] 5 (.int v) = some #[s0, .val z1, .val z2, .val z3, .val z4, .val (.int v)] := by
  rcases h with rfl | ⟨w, rfl, hw⟩
  · rfl
  · cases w <;> first | rfl | (simp [Value.category] at hw)
theorem d1_47 : decode prog_103_method_23_code 47 = .ok (.iload_n 3, 1) := by decide +kernel
theorem d1_48 : decode prog_103_method_23_code 48 = .ok (.aload_n 0, 1) := by decide +kernel
theorem d1_49 : decode prog_103_method_23_code 49 = .ok (.arraylength, 1) := by decide +kernel
theorem d1_50 : decode prog_103_method_23_code 50 = .ok (.if_icmp .ge 21, 3) := by decide +kernel
theorem d1_73 : decode prog_103_method_23_code 73 = .ok (.iload_n 3, 1) := by decide +kernel
theorem d1_74 : decode prog_103_method_23_code 74 = .ok (.aload_n 0, 1) := by decide +kernel
theorem d1_75 : decode prog_103_method_23_code 75 = .ok (.arraylength, 1) := by decide +kernel
theorem d1_76 : decode prog_103_method_23_code 76 = .ok (.if_icmp .ge 29, 3) := by decide +kernel
theorem d1_0 : decode prog_103_method_23_code 0 = .ok (.aload_n 0, 1) := by decide +kernel
theorem d1_1 : decode prog_103_method_23_code 1 = .ok (.arraylength, 1) := by decide +kernel
theorem d1_2 : decode prog_103_method_23_code 2 = .ok (.newarray .int, 2) := by decide +kernel
theorem d1_4 : decode prog_103_method_23_code 4 = .ok (.astore_n 1, 1) := by decide +kernel
theorem d1_5 : decode prog_103_method_23_code 5 = .ok (.aload_n 0, 1) := by decide +kernel
theorem d1_6 : decode prog_103_method_23_code 6 = .ok (.astore_n 2, 1) := by decide +kernel
theorem d1_7 : decode prog_103_method_23_code 7 = .ok (.aload_n 2, 1) := by decide +kernel
theorem d1_8 : decode prog_103_method_23_code 8 = .ok (.arraylength, 1) := by decide +kernel
theorem d1_9 : decode prog_103_method_23_code 9 = .ok (.istore_n 3, 1) := by decide +kernel
theorem d1_10 : decode prog_103_method_23_code 10 = .ok (.iconst 0, 1) := by decide +kernel
theorem d1_11 : decode prog_103_method_23_code 11 = .ok (.istore 4, 2) := by decide +kernel
theorem os1_4 {z0 : Value} {s1 : Slot} {s2 : Slot} {s3 : Slot} {s4 : Slot} {s5 : Slot} {v : Addr} (h : One s1) : storeLocals #[.val z0, s1, s2, s3, s4, s5] 1 (.ref v) = some #[.val z0, .val (.ref v), s2, s3, s4, s5] := by
  rcases h with rfl | ⟨w, rfl, hw⟩
  · rfl
  · cases w <;> first | rfl | (simp [Value.category] at hw)
theorem os1_6 {z0 : Value} {z1 : Value} {s2 : Slot} {s3 : Slot} {s4 : Slot} {s5 : Slot} {v : Addr} (h : One s2) : storeLocals #[.val z0, .val z1, s2, s3, s4, s5] 2 (.ref v) = some #[.val z0, .val z1, .val (.ref v), s3, s4, s5] := by
  rcases h with rfl | ⟨w, rfl, hw⟩
  · rfl
  · cases w <;> first | rfl | (simp [Value.category] at hw)
theorem os1_9 {z0 : Value} {z1 : Value} {z2 : Value} {s3 : Slot} {s4 : Slot} {s5 : Slot} {v : Int32} (h : One s3) : storeLocals #[.val z0, .val z1, .val z2, s3, s4, s5] 3 (.int v) = some #[.val z0, .val z1, .val z2, .val (.int v), s4, s5] := by
  rcases h with rfl | ⟨w, rfl, hw⟩
  · rfl
  · cases w <;> first | rfl | (simp [Value.category] at hw)
theorem os1_11 {z0 : Value} {z1 : Value} {z2 : Value} {z3 : Value} {s4 : Slot} {s5 : Slot} {v : Int32} (h : One s4) : storeLocals #[.val z0, .val z1, .val z2, .val z3, s4, s5] 4 (.int v) = some #[.val z0, .val z1, .val z2, .val z3, .val (.int v), s5] := by
  rcases h with rfl | ⟨w, rfl, hw⟩
  · rfl
  · cases w <;> first | rfl | (simp [Value.category] at hw)
theorem d1_53 : decode prog_103_method_23_code 53 = .ok (.aload_n 2, 1) := by decide +kernel
theorem d1_54 : decode prog_103_method_23_code 54 = .ok (.iload_n 3, 1) := by decide +kernel
theorem d1_55 : decode prog_103_method_23_code 55 = .ok (.aload_n 1, 1) := by decide +kernel
theorem d1_56 : decode prog_103_method_23_code 56 = .ok (.iload_n 3, 1) := by decide +kernel
theorem d1_57 : decode prog_103_method_23_code 57 = .ok (.iaload, 1) := by decide +kernel
theorem d1_58 : decode prog_103_method_23_code 58 = .ok (.newarray .int, 2) := by decide +kernel
theorem d1_60 : decode prog_103_method_23_code 60 = .ok (.aastore, 1) := by decide +kernel
theorem d1_61 : decode prog_103_method_23_code 61 = .ok (.aload_n 1, 1) := by decide +kernel
theorem d1_62 : decode prog_103_method_23_code 62 = .ok (.iload_n 3, 1) := by decide +kernel
theorem d1_63 : decode prog_103_method_23_code 63 = .ok (.iconst 0, 1) := by decide +kernel
theorem d1_64 : decode prog_103_method_23_code 64 = .ok (.iastore, 1) := by decide +kernel
theorem d1_65 : decode prog_103_method_23_code 65 = .ok (.iinc 3 1, 3) := by decide +kernel
theorem d1_68 : decode prog_103_method_23_code 68 = .ok (.goto (-21), 3) := by decide +kernel
theorem d1_79 : decode prog_103_method_23_code 79 = .ok (.aload_n 0, 1) := by decide +kernel
theorem d1_80 : decode prog_103_method_23_code 80 = .ok (.iload_n 3, 1) := by decide +kernel
theorem d1_81 : decode prog_103_method_23_code 81 = .ok (.iaload, 1) := by decide +kernel
theorem d1_82 : decode prog_103_method_23_code 82 = .ok (.istore 4, 2) := by decide +kernel
theorem d1_84 : decode prog_103_method_23_code 84 = .ok (.aload_n 2, 1) := by decide +kernel
theorem d1_85 : decode prog_103_method_23_code 85 = .ok (.iload 4, 2) := by decide +kernel
theorem d1_87 : decode prog_103_method_23_code 87 = .ok (.aaload, 1) := by decide +kernel
theorem d1_88 : decode prog_103_method_23_code 88 = .ok (.aload_n 1, 1) := by decide +kernel
theorem d1_89 : decode prog_103_method_23_code 89 = .ok (.iload 4, 2) := by decide +kernel
theorem d1_91 : decode prog_103_method_23_code 91 = .ok (.dup2, 1) := by decide +kernel
theorem d1_92 : decode prog_103_method_23_code 92 = .ok (.iaload, 1) := by decide +kernel
theorem d1_93 : decode prog_103_method_23_code 93 = .ok (.dup_x2, 1) := by decide +kernel
theorem d1_94 : decode prog_103_method_23_code 94 = .ok (.iconst 1, 1) := by decide +kernel
theorem d1_95 : decode prog_103_method_23_code 95 = .ok (.iadd, 1) := by decide +kernel
theorem d1_96 : decode prog_103_method_23_code 96 = .ok (.iastore, 1) := by decide +kernel
theorem d1_97 : decode prog_103_method_23_code 97 = .ok (.iload_n 3, 1) := by decide +kernel
theorem d1_98 : decode prog_103_method_23_code 98 = .ok (.iastore, 1) := by decide +kernel
theorem d1_99 : decode prog_103_method_23_code 99 = .ok (.iinc 3 1, 3) := by decide +kernel
theorem d1_102 : decode prog_103_method_23_code 102 = .ok (.goto (-29), 3) := by decide +kernel
theorem os1_82 {z0 : Value} {z1 : Value} {z2 : Value} {z3 : Value} {s4 : Slot} {s5 : Slot} {v : Int32} (h : One s4) : storeLocals #[.val z0, .val z1, .val z2, .val z3, s4, s5] 4 (.int v) = some #[.val z0, .val z1, .val z2, .val z3, .val (.int v), s5] := by
  rcases h with rfl | ⟨w, rfl, hw⟩
  · rfl
  · cases w <;> first | rfl | (simp [Value.category] at hw)
theorem d1_71 : decode prog_103_method_23_code 71 = .ok (.iconst 0, 1) := by decide +kernel
theorem d1_72 : decode prog_103_method_23_code 72 = .ok (.istore_n 3, 1) := by decide +kernel
theorem os1_72 {s0 : Slot} {s1 : Slot} {s2 : Slot} {s3 : Slot} {s4 : Slot} {s5 : Slot} {v : Int32} (h : One s3) : storeLocals #[s0, s1, s2, s3, s4, s5] 3 (.int v) = some #[s0, s1, s2, .val (.int v), s4, s5] := by
  rcases h with rfl | ⟨w, rfl, hw⟩
  · rfl
  · cases w <;> first | rfl | (simp [Value.category] at hw)
theorem d1_39 : decode prog_103_method_23_code 39 = .ok (.aload_n 0, 1) := by decide +kernel
theorem d1_40 : decode prog_103_method_23_code 40 = .ok (.arraylength, 1) := by decide +kernel
theorem d1_41 : decode prog_103_method_23_code 41 = .ok (.anewarray 23, 3) := by decide +kernel
theorem d1_44 : decode prog_103_method_23_code 44 = .ok (.astore_n 2, 1) := by decide +kernel
theorem d1_45 : decode prog_103_method_23_code 45 = .ok (.iconst 0, 1) := by decide +kernel
theorem d1_46 : decode prog_103_method_23_code 46 = .ok (.istore_n 3, 1) := by decide +kernel
theorem d1_105 : decode prog_103_method_23_code 105 = .ok (.aload_n 2, 1) := by decide +kernel
theorem d1_106 : decode prog_103_method_23_code 106 = .ok (.areturn, 1) := by decide +kernel
theorem pn_1 : plainName "com/example/libpiecewise/libpiecewise/TransformationMonoid" = true := by first | (simp [plainName, overriddenIn]; done) | decide +kernel
theorem ef_1 (m : MethodId) (x0 : Addr) : entryFrame m #[(.ref x0)] 6 = mkF m 0 #[.val (.ref x0), .unset, .unset, .unset, .unset, .unset] [] := by first | (simp [entryFrame, mkF, argsToLocals, Value.category]; done) | rfl
set_option maxRecDepth 65536 in
set_option maxHeartbeats 40000000 in
theorem tn1_13_13 {p : Program} {l : Launch} {e : Env} {R : Room} {s : State} {m : MethodId} {args : Array Value} {below : List Frame} {meth : Method} {c : Code} {T0 : State} {locs : List Loc} {cells slots : Nat} {Z : State} {a0 : Array Value} {h0 : Heap} (s0 : Slot) (o1 : Addr) (o2 : Addr) (i3 : Int32) (i4 : Int32) (s5 : Slot) (w2 : Int32) (cl_o2 : Cell) (w3 : Int32) (cl_o1 : Cell) (n0 : Nat)
    (X0 : Stand p l e R s m args below meth c T0 locs cells slots) (hx : p.tables.exec = Jvm.exec) (hZ : Z.Warmed39 s.vm) (hw : ∀ d ∈ tables_1, d.before a0 Z = true) (hby : c.code = prog_103_method_23_code) (hml : c.maxLocals = 6) (hown : s.vm.findClass "com/example/libpiecewise/libpiecewise/TransformationMonoid" = some m.cls) (e0 : T0.heap = h0) (N0 : Fr n0 locs) (Ar_o2 : Arr Z h0 o2 cl_o2 .int) (hin22 : ¬ (i4 < 0 ∨ cl_o2.slots.size ≤ (i4).toNatClampNeg)) (hat22 : cl_o2.slots[(i4).toNatClampNeg]? = some (.int w2)) (hs5 : One s5) (Ar_o1 : Arr Z h0 o1 cl_o1 .int) (hin29 : ¬ (w2 < 0 ∨ cl_o1.slots.size ≤ (w2).toNatClampNeg)) (hat29 : cl_o1.slots[(w2).toNatClampNeg]? = some (.int w3)) (hin32 : ¬ (w2 < 0 ∨ cl_o1.slots.size ≤ (w2).toNatClampNeg)) (g_o1 : n0 ≤ o1) (hc16 : i4 < i3) :
    ∃ (T' : State) (h' : Heap) (locs' : List Loc), Stand p l e R s m args below meth c T' locs' cells slots ∧ T'.heap = h' ∧ Fr n0 locs' ∧ Wr h0 h' o1 (w2).toNatClampNeg (.int (w3 + (1 : Int32))) ∧
      ∀ target, Steps p.tables e below (T'.setTop (mkF m 13 #[s0, .val (.ref o1), .val (.ref o2), .val (.int i3), .val (.int (i4 + (1 : Int32))), .val (.int w2)] [])) target → Steps p.tables e below (T0.setTop (mkF m 13 #[s0, .val (.ref o1), .val (.ref o2), .val (.int i3), .val (.int i4), s5] [])) target := by
  obtain ⟨T4, h4, X4, e4, W4, st4⟩ := stI X0 hx hZ e0 Ar_o1 (j := w2) hin32 (g := (mkF m 32 #[s0, .val (.ref o1), .val (.ref o2), .val (.int i3), .val (.int i4), .val (.int w2)] [(.int (w3 + (1 : Int32))), (.int w2), (.ref o1)])) rfl rfl (hb hby d1_32)
  have N4 := Fr.snoc X4 N0 g_o1
  have K4 : Keep h0 h4 [o1] := (Keep.refl h0 [o1]).wr W4 (Or.inl (List.mem_of_getElem? (i := 0) rfl))
  refine ⟨T4, _, _, X4, e4, N4, W4, fun target kt => ?_⟩
  show Steps p.tables e below (T0.setTop (mkF m 13 #[s0, .val (.ref o1), .val (.ref o2), .val (.int i3), .val (.int i4), s5] [])) _
  refine XS.iload X0.here hx rfl (hb hby d1_13) rfl ?_
  show Steps p.tables e below (T0.setTop (mkF m 15 #[s0, .val (.ref o1), .val (.ref o2), .val (.int i3), .val (.int i4), s5] [(.int i4)])) _
  refine XS.iloadN X0.here hx rfl (hb hby d1_15) rfl ?_
  show Steps p.tables e below (T0.setTop (mkF m 16 #[s0, .val (.ref o1), .val (.ref o2), .val (.int i3), .val (.int i4), s5] [(.int i3), (.int i4)])) _
  refine XS.icmpNo X0.here hx rfl (hb hby d1_16) rfl (tlt hc16).2.1 ?_
  show Steps p.tables e below (T0.setTop (mkF m 19 #[s0, .val (.ref o1), .val (.ref o2), .val (.int i3), .val (.int i4), s5] [])) _
  refine XS.aloadN X0.here hx rfl (hb hby d1_19) rfl rfl ?_
  show Steps p.tables e below (T0.setTop (mkF m 20 #[s0, .val (.ref o1), .val (.ref o2), .val (.int i3), .val (.int i4), s5] [(.ref o2)])) _
  refine XS.iload X0.here hx rfl (hb hby d1_20) rfl ?_
  show Steps p.tables e below (T0.setTop (mkF m 22 #[s0, .val (.ref o1), .val (.ref o2), .val (.int i3), .val (.int i4), s5] [(.int i4), (.ref o2)])) _
  refine X0.iaload hx (j := i4) (v := (.int w2)) (by rw [e0]; exact Ar_o2.1) (State.isArrayOf_alike hZ.alike Ar_o2.2.1) Ar_o2.2.2 hin22 hat22 (g := (mkF m 22 #[s0, .val (.ref o1), .val (.ref o2), .val (.int i3), .val (.int i4), s5] [(.int i4), (.ref o2)])) rfl rfl (hb hby d1_22) _ ?_
  show Steps p.tables e below (T0.setTop (mkF m 23 #[s0, .val (.ref o1), .val (.ref o2), .val (.int i3), .val (.int i4), s5] [(.int w2)])) _
  refine XS.istore X0.here hx rfl (hb hby d1_23) rfl (l' := #[s0, .val (.ref o1), .val (.ref o2), .val (.int i3), .val (.int i4), .val (.int w2)]) (os1_23 hs5) ?_
  show Steps p.tables e below (T0.setTop (mkF m 25 #[s0, .val (.ref o1), .val (.ref o2), .val (.int i3), .val (.int i4), .val (.int w2)] [])) _
  refine XS.aloadN X0.here hx rfl (hb hby d1_25) rfl rfl ?_
  show Steps p.tables e below (T0.setTop (mkF m 26 #[s0, .val (.ref o1), .val (.ref o2), .val (.int i3), .val (.int i4), .val (.int w2)] [(.ref o1)])) _
  refine XS.iload X0.here hx rfl (hb hby d1_26) rfl ?_
  show Steps p.tables e below (T0.setTop (mkF m 28 #[s0, .val (.ref o1), .val (.ref o2), .val (.int i3), .val (.int i4), .val (.int w2)] [(.int w2), (.ref o1)])) _
  jvm_step X0.here [X0.here.top, hx, (hb hby d1_28), Value.category]
  show Steps p.tables e below (T0.setTop (mkF m 29 #[s0, .val (.ref o1), .val (.ref o2), .val (.int i3), .val (.int i4), .val (.int w2)] [(.int w2), (.ref o1), (.int w2), (.ref o1)])) _
  refine X0.iaload hx (j := w2) (v := (.int w3)) (by rw [e0]; exact Ar_o1.1) (State.isArrayOf_alike hZ.alike Ar_o1.2.1) Ar_o1.2.2 hin29 hat29 (g := (mkF m 29 #[s0, .val (.ref o1), .val (.ref o2), .val (.int i3), .val (.int i4), .val (.int w2)] [(.int w2), (.ref o1), (.int w2), (.ref o1)])) rfl rfl (hb hby d1_29) _ ?_
  show Steps p.tables e below (T0.setTop (mkF m 30 #[s0, .val (.ref o1), .val (.ref o2), .val (.int i3), .val (.int i4), .val (.int w2)] [(.int w3), (.int w2), (.ref o1)])) _
  refine XS.iconst X0.here hx rfl (hb hby d1_30) ?_
  show Steps p.tables e below (T0.setTop (mkF m 31 #[s0, .val (.ref o1), .val (.ref o2), .val (.int i3), .val (.int i4), .val (.int w2)] [(.int (1 : Int32)), (.int w3), (.int w2), (.ref o1)])) _
  refine XS.iadd X0.here hx rfl (hb hby d1_31) rfl ?_
  show Steps p.tables e below (T0.setTop (mkF m 32 #[s0, .val (.ref o1), .val (.ref o2), .val (.int i3), .val (.int i4), .val (.int w2)] [(.int (w3 + (1 : Int32))), (.int w2), (.ref o1)])) _
  refine st4 _ ?_
  show Steps p.tables e below (T4.setTop (mkF m 33 #[s0, .val (.ref o1), .val (.ref o2), .val (.int i3), .val (.int i4), .val (.int w2)] [])) _
  refine XS.iinc X4.here hx rfl (hb hby d1_33) rfl (l' := #[s0, .val (.ref o1), .val (.ref o2), .val (.int i3), .val (.int (i4 + (1 : Int32))), .val (.int w2)]) rfl ?_
  show Steps p.tables e below (T4.setTop (mkF m 36 #[s0, .val (.ref o1), .val (.ref o2), .val (.int i3), .val (.int (i4 + (1 : Int32))), .val (.int w2)] [])) _
  refine XS.goto X4.here hx rfl (pc0 := 36) (pc' := 13) rfl (hb hby d1_36) (by decide) (by decide) ?_
  exact kt

set_option maxRecDepth 65536 in
set_option maxHeartbeats 40000000 in
theorem tn1_13_39 {p : Program} {l : Launch} {e : Env} {R : Room} {s : State} {m : MethodId} {args : Array Value} {below : List Frame} {meth : Method} {c : Code} {T0 : State} {locs : List Loc} {cells slots : Nat} {Z : State} {a0 : Array Value} {h0 : Heap} (s0 : Slot) (s1 : Slot) (s2 : Slot) (i3 : Int32) (i4 : Int32) (s5 : Slot)
    (X0 : Stand p l e R s m args below meth c T0 locs cells slots) (hx : p.tables.exec = Jvm.exec) (hZ : Z.Warmed39 s.vm) (hw : ∀ d ∈ tables_1, d.before a0 Z = true) (hby : c.code = prog_103_method_23_code) (hml : c.maxLocals = 6) (hown : s.vm.findClass "com/example/libpiecewise/libpiecewise/TransformationMonoid" = some m.cls) (e0 : T0.heap = h0) (hc16 : ¬ (i4 < i3)) :
    ∃ (T' : State), Stand p l e R s m args below meth c T' locs cells slots ∧ T'.heap = h0 ∧
      ∀ target, Steps p.tables e below (T'.setTop (mkF m 39 #[s0, s1, s2, .val (.int i3), .val (.int i4), s5] [])) target → Steps p.tables e below (T0.setTop (mkF m 13 #[s0, s1, s2, .val (.int i3), .val (.int i4), s5] [])) target := by

  refine ⟨T0, X0, e0, fun target kt => ?_⟩
  show Steps p.tables e below (T0.setTop (mkF m 13 #[s0, s1, s2, .val (.int i3), .val (.int i4), s5] [])) _
  refine XS.iload X0.here hx rfl (hb hby d1_13) rfl ?_
  show Steps p.tables e below (T0.setTop (mkF m 15 #[s0, s1, s2, .val (.int i3), .val (.int i4), s5] [(.int i4)])) _
  refine XS.iloadN X0.here hx rfl (hb hby d1_15) rfl ?_
  show Steps p.tables e below (T0.setTop (mkF m 16 #[s0, s1, s2, .val (.int i3), .val (.int i4), s5] [(.int i3), (.int i4)])) _
  refine XS.icmpYes X0.here hx rfl (pc0 := 16) (pc' := 39) rfl (hb hby d1_16) rfl (flt hc16).2.1 (by decide) (by decide) ?_
  exact kt

theorem loop1 {p : Program} {l : Launch} {e : Env} {s : State} {m : MethodId} {args : Array Value} {below : List Frame} {meth : Method} {c : Code} {R : Room} {cells slots : Nat} {Z : State} {a0 : Array Value} {H0 : Heap} (ta ca : Addr) (n : Nat) (tv : Nat → Nat) (n0 : Nat) (hx : p.tables.exec = Jvm.exec) (hZ : Z.Warmed39 s.vm) (hw : ∀ d ∈ tables_1, d.before a0 Z = true) (hby : c.code = prog_103_method_23_code) (hml : c.maxLocals = 6) (hown : s.vm.findClass "com/example/libpiecewise/libpiecewise/TransformationMonoid" = some m.cls) (hn : n ≤ 4) (htv : ∀ j, j < n → tv j < n) (hca : H0.size ≤ ca) (gca : n0 ≤ ca) (hta : ta < H0.size) :
    ∀ (k i : Nat) (s5 : Slot) (T0 : State) (h : Heap) (locs : List Loc), i + k = n → One s5 → Stand p l e R s m args below meth c T0 locs cells slots → T0.heap = h → Fr n0 locs → Keep H0 h [] → own_arr Z h ta n (own_ft tv) → own_arr Z h ca n (fun q => Int32.ofNat (own_cnt tv i q)) →
      ∃ (T' : State) (h' : Heap) (locs' : List Loc) (s5' : Slot), Stand p l e R s m args below meth c T' locs' cells slots ∧ T'.heap = h' ∧ Fr n0 locs' ∧ Keep H0 h' [] ∧ own_arr Z h' ta n (own_ft tv) ∧ own_arr Z h' ca n (fun q => Int32.ofNat (own_cnt tv n q)) ∧ One s5' ∧
        ∀ target, Steps p.tables e below (T'.setTop (mkF m 39 #[.val (.ref ta), .val (.ref ca), .val (.ref ta), .val (.int (Int32.ofNat n)), .val (.int (Int32.ofNat n)), s5'] [])) target → Steps p.tables e below (T0.setTop (mkF m 13 #[.val (.ref ta), .val (.ref ca), .val (.ref ta), .val (.int (Int32.ofNat n)), .val (.int (Int32.ofNat i)), s5] [])) target := by
  intro k
  induction k with
  | zero =>
    intro i s5 T0 h locs hi h5 X0 e0 N0 K0 Vt Vc
    have hi' : i = n := by omega
    subst hi'
    obtain ⟨T', X', e', st⟩ := tn1_13_39 (.val (.ref ta)) (.val (.ref ca)) (.val (.ref ta)) (Int32.ofNat i) (Int32.ofNat i) s5 X0 hx hZ hw hby hml hown e0 Int32.lt_irrefl
    exact ⟨T', h, locs, s5, X', e', N0, K0, Vt, Vc, h5, st⟩
  | succ k ih =>
    intro i s5 T0 h locs hi h5 X0 e0 N0 K0 Vt Vc
    have hil : i < n := by omega
    have hv := htv i hil
    have Vt' := Vt
    have Vc' := Vc
    obtain ⟨ct, At, St, Ht⟩ := Vt'
    obtain ⟨cc, Ac, Sc, Hc⟩ := Vc'
    obtain ⟨T1, h1, L1, X1, e1, N1, W1, st1⟩ := tn1_13_13 (.val (.ref ta)) ca ta (Int32.ofNat n) (Int32.ofNat i) s5 (Int32.ofNat (tv i)) ct (Int32.ofNat (own_cnt tv i (tv i))) cc n0 X0 hx hZ hw hby hml hown e0 N0 At (own_in St hil (by omega)) (own_hat Ht hil (by omega)) h5 Ac (own_in Sc hv (by omega)) (own_hat Hc hv (by omega)) (own_in Sc hv (by omega)) gca ((own_lt_iff (by omega) (by omega)).2 hil)
    have Vc1 : own_arr Z h1 ca n (fun q => Int32.ofNat (own_cnt tv (i + 1) q)) := by
      refine (own_arr.set Ac Sc Hc W1 hv (by omega)).congr fun j hj => ?_
      show (if j = tv i then Int32.ofNat (own_cnt tv i (tv i)) + 1 else Int32.ofNat (own_cnt tv i j)) = Int32.ofNat (own_cnt tv i j + (if tv i = j then 1 else 0))
      by_cases e : j = tv i
      · subst e; rw [if_pos rfl, if_pos rfl, own_one]
      · rw [if_neg e, if_neg (fun q => e q.symm), Nat.add_zero]
    obtain ⟨T', h', L', s5', X', e', N', K', Vt2, Vc2, h5', st⟩ := ih (i + 1) (.val (.int (Int32.ofNat (tv i)))) T1 h1 L1 (by omega) (One.val rfl) X1 e1 N1 (K0.wr W1 (Or.inr hca)) (Vt.other W1 (Nat.ne_of_lt (Nat.lt_of_lt_of_le hta hca))) Vc1
    refine ⟨T', h', L', s5', X', e', N', K', Vt2, Vc2, h5', fun target hh => st1 target ?_⟩
    rw [own_one]
    exact st target hh
set_option maxRecDepth 65536 in
set_option maxHeartbeats 40000000 in
theorem tn1_0_13 {p : Program} {l : Launch} {e : Env} {s : State} {m : MethodId} {args : Array Value} {below : List Frame} {meth : Method} {c : Code} {T0 : State} {locs : List Loc} {Z : State} {a0 : Array Value} {h0 : Heap} (o0 : Addr) (s1 : Slot) (s2 : Slot) (s3 : Slot) (s4 : Slot) (s5 : Slot) (cl_o0 : Cell) (n : Nat) (n0 : Nat)
    (X0 : Stand p l e ({ frames := 0, cells := 6, slots := 24, locals := 0 } : Room) s m args below meth c T0 locs 0 0) (hx : p.tables.exec = Jvm.exec) (hZ : Z.Warmed39 s.vm) (hw : ∀ d ∈ tables_1, d.before a0 Z = true) (hby : c.code = prog_103_method_23_code) (hml : c.maxLocals = 6) (hown : s.vm.findClass "com/example/libpiecewise/libpiecewise/TransformationMonoid" = some m.cls) (e0 : T0.heap = h0) (Z0 : n0 ≤ h0.size) (hn : n ≤ 4) (Ar_o0 : Arr Z h0 o0 cl_o0 .int) (S_o0 : cl_o0.slots.size = (Int32.ofNat n).toNatClampNeg) (N_o0 : ¬ (Int32.ofNat n) < 0) (hs1 : One s1) (hs2 : One s2) (hs3 : One s3) (hs4 : One s4) :
    ∃ (T' : State) (h' : Heap) (b2 : Addr), Stand p l e ({ frames := 0, cells := 6, slots := 24, locals := 0 } : Room) s m args below meth c T' locs 1 4 ∧ T'.heap = h' ∧ Ext h0 h' ∧ b2 = h0.size ∧ own_arr Z h' b2 n (fun _ => 0) ∧
      ∀ target, Steps p.tables e below (T'.setTop (mkF m 13 #[.val (.ref o0), .val (.ref b2), .val (.ref o0), .val (.int (Int32.ofNat n)), .val (.int (0 : Int32)), s5] [])) target → Steps p.tables e below (T0.setTop (mkF m 0 #[.val (.ref o0), s1, s2, s3, s4, s5] [])) target := by
  obtain ⟨T2, h2, k2, X2, e2, E2, A2, st2⟩ := newP X0 hx hZ (hw _ (List.mem_of_getElem? (i := 1) rfl)) e0 (g := (mkF m 2 #[.val (.ref o0), s1, s2, s3, s4, s5] [(.int (Int32.ofNat n))])) rfl (hb hby d1_2) rfl (own_nn (by omega)) (cap := 4) (by rw [own_n32 (by omega)]; exact hn) (by decide) (by decide) (by decide)
  obtain ⟨b2, g2⟩ : ∃ z, z = h0.size := ⟨_, rfl⟩      -- the fresh array's address
  rw [← g2] at A2 st2
  have g_b2 : n0 ≤ b2 := Nat.le_trans Z0 (Nat.le_of_eq g2.symm)
  have sz_b2 : h0.size ≤ b2 := (Nat.le_trans (Keep.refl h0 []).1 (Nat.le_of_eq g2.symm))
  have K2 : Keep h0 h2 [] := (Keep.refl h0 []).ext E2
  refine ⟨T2, _, b2, X2, e2, E2, g2, own_arr.new A2 (by omega), fun target kt => ?_⟩
  show Steps p.tables e below (T0.setTop (mkF m 0 #[.val (.ref o0), s1, s2, s3, s4, s5] [])) _
  refine XS.aloadN X0.here hx rfl (hb hby d1_0) rfl rfl ?_
  show Steps p.tables e below (T0.setTop (mkF m 1 #[.val (.ref o0), s1, s2, s3, s4, s5] [(.ref o0)])) _
  refine X0.arraylength hx (by rw [e0]; exact Ar_o0.1) (State.isArrayOf_alike hZ.alike Ar_o0.2.1) (g := (mkF m 1 #[.val (.ref o0), s1, s2, s3, s4, s5] [(.ref o0)])) rfl rfl (hb hby d1_1) _ ?_
  rw [len_of S_o0 N_o0]
  show Steps p.tables e below (T0.setTop (mkF m 2 #[.val (.ref o0), s1, s2, s3, s4, s5] [(.int (Int32.ofNat n))])) _
  refine st2 _ ?_
  show Steps p.tables e below (T2.setTop (mkF m 4 #[.val (.ref o0), s1, s2, s3, s4, s5] [(.ref b2)])) _
  refine XS.astoreN X2.here hx rfl (hb hby d1_4) rfl rfl (l' := #[.val (.ref o0), .val (.ref b2), s2, s3, s4, s5]) (os1_4 hs1) ?_
  show Steps p.tables e below (T2.setTop (mkF m 5 #[.val (.ref o0), .val (.ref b2), s2, s3, s4, s5] [])) _
  refine XS.aloadN X2.here hx rfl (hb hby d1_5) rfl rfl ?_
  show Steps p.tables e below (T2.setTop (mkF m 6 #[.val (.ref o0), .val (.ref b2), s2, s3, s4, s5] [(.ref o0)])) _
  refine XS.astoreN X2.here hx rfl (hb hby d1_6) rfl rfl (l' := #[.val (.ref o0), .val (.ref b2), .val (.ref o0), s3, s4, s5]) (os1_6 hs2) ?_
  show Steps p.tables e below (T2.setTop (mkF m 7 #[.val (.ref o0), .val (.ref b2), .val (.ref o0), s3, s4, s5] [])) _
  refine XS.aloadN X2.here hx rfl (hb hby d1_7) rfl rfl ?_
  show Steps p.tables e below (T2.setTop (mkF m 8 #[.val (.ref o0), .val (.ref b2), .val (.ref o0), s3, s4, s5] [(.ref o0)])) _
  refine X2.arraylength hx (by rw [e2]; exact (Ar_o0.ext E2).1) (State.isArrayOf_alike hZ.alike Ar_o0.2.1) (g := (mkF m 8 #[.val (.ref o0), .val (.ref b2), .val (.ref o0), s3, s4, s5] [(.ref o0)])) rfl rfl (hb hby d1_8) _ ?_
  rw [len_of S_o0 N_o0]
  show Steps p.tables e below (T2.setTop (mkF m 9 #[.val (.ref o0), .val (.ref b2), .val (.ref o0), s3, s4, s5] [(.int (Int32.ofNat n))])) _
  refine XS.istoreN X2.here hx rfl (hb hby d1_9) rfl (l' := #[.val (.ref o0), .val (.ref b2), .val (.ref o0), .val (.int (Int32.ofNat n)), s4, s5]) (os1_9 hs3) ?_
  show Steps p.tables e below (T2.setTop (mkF m 10 #[.val (.ref o0), .val (.ref b2), .val (.ref o0), .val (.int (Int32.ofNat n)), s4, s5] [])) _
  refine XS.iconst X2.here hx rfl (hb hby d1_10) ?_
  show Steps p.tables e below (T2.setTop (mkF m 11 #[.val (.ref o0), .val (.ref b2), .val (.ref o0), .val (.int (Int32.ofNat n)), s4, s5] [(.int (0 : Int32))])) _
  refine XS.istore X2.here hx rfl (hb hby d1_11) rfl (l' := #[.val (.ref o0), .val (.ref b2), .val (.ref o0), .val (.int (Int32.ofNat n)), .val (.int (0 : Int32)), s5]) (os1_11 hs4) ?_
  exact kt

theorem tn1_39_47 {p : Program} {l : Launch} {e : Env} {s : State} {m : MethodId} {args : Array Value} {below : List Frame} {meth : Method} {c : Code} {T0 : State} {locs : List Loc} {Z : State} {a0 : Array Value} {h0 : Heap} (ta ca : Addr) (n : Nat) (i3 i4 : Int32) (s5 : Slot) (cl : Cell)
    (X0 : Stand p l e ({ frames := 0, cells := 6, slots := 24, locals := 0 } : Room) s m args below meth c T0 locs 1 4) (hx : p.tables.exec = Jvm.exec) (hZ : Z.Warmed39 s.vm) (hw : ∀ d ∈ tables_1, d.before a0 Z = true) (hby : c.code = prog_103_method_23_code) (hml : c.maxLocals = 6) (hown : s.vm.findClass "com/example/libpiecewise/libpiecewise/TransformationMonoid" = some m.cls) (e0 : T0.heap = h0) (hn : n ≤ 4) (Ar : Arr Z h0 ta cl .int) (S : cl.slots.size = (Int32.ofNat n).toNatClampNeg) :
    ∃ (T' : State) (h' : Heap) (b : Addr) (kr : ClassId), Stand p l e ({ frames := 0, cells := 6, slots := 24, locals := 0 } : Room) s m args below meth c T' locs 2 8 ∧ T'.heap = h' ∧ Ext h0 h' ∧ b = h0.size ∧ own_rows Z h' b kr n (fun _ => .null) ∧ OvrA Z kr .int "[I" ∧
      ∀ target, Steps p.tables e below (T'.setTop (mkF m 47 #[.val (.ref ta), .val (.ref ca), .val (.ref b), .val (.int (0 : Int32)), .val (.int i4), s5] [])) target → Steps p.tables e below (T0.setTop (mkF m 39 #[.val (.ref ta), .val (.ref ca), .val (.ref ta), .val (.int i3), .val (.int i4), s5] [])) target := by
  obtain ⟨T1, h1, k1, X1, e1, E1, A1, Ex1, O1, st1⟩ := newRA X0 hx hZ hown (C := "[I") (ty := .int) rfl (hw _ (List.mem_of_getElem? (i := 6) rfl)) (hw _ (List.mem_of_getElem? (i := 7) rfl)) e0 (g := (mkF m 41 #[.val (.ref ta), .val (.ref ca), .val (.ref ta), .val (.int i3), .val (.int i4), s5] [(.int (Int32.ofNat n))])) rfl (hb hby d1_41) rfl (own_nn (by omega)) (cap := 4) (by rw [own_n32 (by omega)]; exact hn) (by decide) (by decide) (by decide) (ad := "[[I") rfl
  obtain ⟨b, gb⟩ : ∃ z, z = h0.size := ⟨_, rfl⟩
  rw [← gb] at A1 Ex1 st1
  refine ⟨T1, h1, b, k1, X1, e1, E1, gb, own_rows.new A1 (by omega), O1, fun target kt => ?_⟩
  refine XS.aloadN X0.here hx rfl (hb hby d1_39) rfl rfl ?_
  show Steps p.tables e below (T0.setTop (mkF m 40 #[.val (.ref ta), .val (.ref ca), .val (.ref ta), .val (.int i3), .val (.int i4), s5] [(.ref ta)])) _
  refine X0.arraylength hx (by rw [e0]; exact Ar.1) (State.isArrayOf_alike hZ.alike Ar.2.1) (g := (mkF m 40 #[.val (.ref ta), .val (.ref ca), .val (.ref ta), .val (.int i3), .val (.int i4), s5] [(.ref ta)])) rfl rfl (hb hby d1_40) _ ?_
  rw [len_of S (own_nn (by omega))]
  show Steps p.tables e below (T0.setTop (mkF m 41 #[.val (.ref ta), .val (.ref ca), .val (.ref ta), .val (.int i3), .val (.int i4), s5] [(.int (Int32.ofNat n))])) _
  refine st1 _ ?_
  show Steps p.tables e below (T1.setTop (mkF m 44 #[.val (.ref ta), .val (.ref ca), .val (.ref ta), .val (.int i3), .val (.int i4), s5] [(.ref b)])) _
  refine XS.astoreN X1.here hx rfl (hb hby d1_44) rfl rfl (l' := #[.val (.ref ta), .val (.ref ca), .val (.ref b), .val (.int i3), .val (.int i4), s5]) rfl ?_
  show Steps p.tables e below (T1.setTop (mkF m 45 #[.val (.ref ta), .val (.ref ca), .val (.ref b), .val (.int i3), .val (.int i4), s5] [])) _
  refine XS.iconst X1.here hx rfl (hb hby d1_45) ?_
  show Steps p.tables e below (T1.setTop (mkF m 46 #[.val (.ref ta), .val (.ref ca), .val (.ref b), .val (.int i3), .val (.int i4), s5] [(.int (0 : Int32))])) _
  refine XS.istoreN X1.here hx rfl (hb hby d1_46) rfl (l' := #[.val (.ref ta), .val (.ref ca), .val (.ref b), .val (.int (0 : Int32)), .val (.int i4), s5]) rfl ?_
  exact kt
set_option maxRecDepth 65536 in
set_option maxHeartbeats 40000000 in
theorem tn1_47_47 {p : Program} {l : Launch} {e : Env} {s : State} {m : MethodId} {args : Array Value} {below : List Frame} {meth : Method} {c : Code} {T0 : State} {locs : List Loc} {cells slots : Nat} {Z : State} {a0 : Array Value} {h0 : Heap} (o0 : Addr) (o1 : Addr) (o2 : Addr) (i3 : Int32) (s4 : Slot) (s5 : Slot) (cl_o0 : Cell) (z_o0 : Int32) (w2 : Int32) (cl_o1 : Cell) (cl_o2 : Cell) (kr : ClassId) (n0 : Nat)
    (X0 : Stand p l e ({ frames := 0, cells := 6, slots := 24, locals := 0 } : Room) s m args below meth c T0 locs cells slots) (hx : p.tables.exec = Jvm.exec) (hZ : Z.Warmed39 s.vm) (hw : ∀ d ∈ tables_1, d.before a0 Z = true) (hby : c.code = prog_103_method_23_code) (hml : c.maxLocals = 6) (hown : s.vm.findClass "com/example/libpiecewise/libpiecewise/TransformationMonoid" = some m.cls) (e0 : T0.heap = h0) (Z0 : n0 ≤ h0.size) (N0 : Fr n0 locs) (hce : cells + 1 ≤ 6) (hsl : slots + 4 ≤ 24) (hw2 : ¬ w2 < 0) (hw4 : w2.toNatClampNeg ≤ 4) (hkr : cl_o2.cls = kr) (OV : OvrA Z kr .int "[I") (ne12 : o1 ≠ o2) (Ar_o0 : Arr Z h0 o0 cl_o0 .int) (S_o0 : cl_o0.slots.size = z_o0.toNatClampNeg) (N_o0 : ¬ z_o0 < 0) (Ar_o1 : Arr Z h0 o1 cl_o1 .int) (hin57 : ¬ (i3 < 0 ∨ cl_o1.slots.size ≤ (i3).toNatClampNeg)) (hat57 : cl_o1.slots[(i3).toNatClampNeg]? = some (.int w2)) (Ar_o2 : Arr Z h0 o2 cl_o2 (.array .int)) (hin60 : ¬ (i3 < 0 ∨ cl_o2.slots.size ≤ (i3).toNatClampNeg)) (g_o2 : n0 ≤ o2) (hin64 : ¬ (i3 < 0 ∨ cl_o1.slots.size ≤ (i3).toNatClampNeg)) (g_o1 : n0 ≤ o1) (hc50 : i3 < z_o0) :
    ∃ (T' : State) (h3 h4 h' : Heap) (locs' : List Loc) (b3 : Addr) (k3 : ClassId), Stand p l e ({ frames := 0, cells := 6, slots := 24, locals := 0 } : Room) s m args below meth c T' locs' (cells + 1) (slots + 4) ∧ T'.heap = h' ∧ Fr n0 locs' ∧ Ext h0 h3 ∧ b3 = h0.size ∧ Arr Z h3 b3 (newA k3 .int w2) .int ∧ Wr h3 h4 o2 (i3).toNatClampNeg (.ref b3) ∧ Wr h4 h' o1 (i3).toNatClampNeg (.int (0 : Int32)) ∧
      ∀ target, Steps p.tables e below (T'.setTop (mkF m 47 #[.val (.ref o0), .val (.ref o1), .val (.ref o2), .val (.int (i3 + (1 : Int32))), s4, s5] [])) target → Steps p.tables e below (T0.setTop (mkF m 47 #[.val (.ref o0), .val (.ref o1), .val (.ref o2), .val (.int i3), s4, s5] [])) target := by
  obtain ⟨T3, h3, k3, X3, e3, E3, A3, Ex3, st3⟩ := newPE X0 hx hZ (hw _ (List.mem_of_getElem? (i := 1) rfl)) e0 (g := (mkF m 58 #[.val (.ref o0), .val (.ref o1), .val (.ref o2), .val (.int i3), s4, s5] [(.int w2), (.int i3), (.ref o2)])) rfl (hb hby d1_58) rfl hw2 (cap := 4) hw4 (by decide) hce hsl (ad := "[I") rfl
  obtain ⟨b3, g3⟩ : ∃ z, z = h0.size := ⟨_, rfl⟩      -- the fresh array's address
  rw [← g3] at A3 Ex3 st3
  have g_b3 : n0 ≤ b3 := Nat.le_trans Z0 (Nat.le_of_eq g3.symm)
  obtain ⟨T4, h4, X4, e4, W4, st4⟩ := stR X3 hx hZ e3 (Ar_o2.ext E3) (j := i3) hin60 rfl (Sto.ofVA (Ar_o2.ext E3) hkr OV (Ins.self Ex3)) (g := (mkF m 60 #[.val (.ref o0), .val (.ref o1), .val (.ref o2), .val (.int i3), s4, s5] [(.ref b3), (.int i3), (.ref o2)])) rfl rfl (hb hby d1_60)
  have N4 := Fr.snoc X4 N0 g_o2
  obtain ⟨T5, h5, X5, e5, W5, st5⟩ := stI X4 hx hZ e4 ((Ar_o1.ext E3).other W4 ne12) (j := i3) hin64 (g := (mkF m 64 #[.val (.ref o0), .val (.ref o1), .val (.ref o2), .val (.int i3), s4, s5] [(.int (0 : Int32)), (.int i3), (.ref o1)])) rfl rfl (hb hby d1_64)
  have N5 := Fr.snoc X5 N4 g_o1
  refine ⟨T5, h3, h4, _, _, b3, k3, X5, e5, N5, E3, g3, A3, W4, W5, fun target kt => ?_⟩
  show Steps p.tables e below (T0.setTop (mkF m 47 #[.val (.ref o0), .val (.ref o1), .val (.ref o2), .val (.int i3), s4, s5] [])) _
  refine XS.iloadN X0.here hx rfl (hb hby d1_47) rfl ?_
  show Steps p.tables e below (T0.setTop (mkF m 48 #[.val (.ref o0), .val (.ref o1), .val (.ref o2), .val (.int i3), s4, s5] [(.int i3)])) _
  refine XS.aloadN X0.here hx rfl (hb hby d1_48) rfl rfl ?_
  show Steps p.tables e below (T0.setTop (mkF m 49 #[.val (.ref o0), .val (.ref o1), .val (.ref o2), .val (.int i3), s4, s5] [(.ref o0), (.int i3)])) _
  refine X0.arraylength hx (by rw [e0]; exact Ar_o0.1) (State.isArrayOf_alike hZ.alike Ar_o0.2.1) (g := (mkF m 49 #[.val (.ref o0), .val (.ref o1), .val (.ref o2), .val (.int i3), s4, s5] [(.ref o0), (.int i3)])) rfl rfl (hb hby d1_49) _ ?_
  rw [len_of S_o0 N_o0]
  show Steps p.tables e below (T0.setTop (mkF m 50 #[.val (.ref o0), .val (.ref o1), .val (.ref o2), .val (.int i3), s4, s5] [(.int z_o0), (.int i3)])) _
  refine XS.icmpNo X0.here hx rfl (hb hby d1_50) rfl (tlt hc50).2.1 ?_
  show Steps p.tables e below (T0.setTop (mkF m 53 #[.val (.ref o0), .val (.ref o1), .val (.ref o2), .val (.int i3), s4, s5] [])) _
  refine XS.aloadN X0.here hx rfl (hb hby d1_53) rfl rfl ?_
  show Steps p.tables e below (T0.setTop (mkF m 54 #[.val (.ref o0), .val (.ref o1), .val (.ref o2), .val (.int i3), s4, s5] [(.ref o2)])) _
  refine XS.iloadN X0.here hx rfl (hb hby d1_54) rfl ?_
  show Steps p.tables e below (T0.setTop (mkF m 55 #[.val (.ref o0), .val (.ref o1), .val (.ref o2), .val (.int i3), s4, s5] [(.int i3), (.ref o2)])) _
  refine XS.aloadN X0.here hx rfl (hb hby d1_55) rfl rfl ?_
  show Steps p.tables e below (T0.setTop (mkF m 56 #[.val (.ref o0), .val (.ref o1), .val (.ref o2), .val (.int i3), s4, s5] [(.ref o1), (.int i3), (.ref o2)])) _
  refine XS.iloadN X0.here hx rfl (hb hby d1_56) rfl ?_
  show Steps p.tables e below (T0.setTop (mkF m 57 #[.val (.ref o0), .val (.ref o1), .val (.ref o2), .val (.int i3), s4, s5] [(.int i3), (.ref o1), (.int i3), (.ref o2)])) _
  refine X0.iaload hx (j := i3) (v := (.int w2)) (by rw [e0]; exact Ar_o1.1) (State.isArrayOf_alike hZ.alike Ar_o1.2.1) Ar_o1.2.2 hin57 hat57 (g := (mkF m 57 #[.val (.ref o0), .val (.ref o1), .val (.ref o2), .val (.int i3), s4, s5] [(.int i3), (.ref o1), (.int i3), (.ref o2)])) rfl rfl (hb hby d1_57) _ ?_
  show Steps p.tables e below (T0.setTop (mkF m 58 #[.val (.ref o0), .val (.ref o1), .val (.ref o2), .val (.int i3), s4, s5] [(.int w2), (.int i3), (.ref o2)])) _
  refine st3 _ ?_
  show Steps p.tables e below (T3.setTop (mkF m 60 #[.val (.ref o0), .val (.ref o1), .val (.ref o2), .val (.int i3), s4, s5] [(.ref b3), (.int i3), (.ref o2)])) _
  refine st4 _ ?_
  show Steps p.tables e below (T4.setTop (mkF m 61 #[.val (.ref o0), .val (.ref o1), .val (.ref o2), .val (.int i3), s4, s5] [])) _
  refine XS.aloadN X4.here hx rfl (hb hby d1_61) rfl rfl ?_
  show Steps p.tables e below (T4.setTop (mkF m 62 #[.val (.ref o0), .val (.ref o1), .val (.ref o2), .val (.int i3), s4, s5] [(.ref o1)])) _
  refine XS.iloadN X4.here hx rfl (hb hby d1_62) rfl ?_
  show Steps p.tables e below (T4.setTop (mkF m 63 #[.val (.ref o0), .val (.ref o1), .val (.ref o2), .val (.int i3), s4, s5] [(.int i3), (.ref o1)])) _
  refine XS.iconst X4.here hx rfl (hb hby d1_63) ?_
  show Steps p.tables e below (T4.setTop (mkF m 64 #[.val (.ref o0), .val (.ref o1), .val (.ref o2), .val (.int i3), s4, s5] [(.int (0 : Int32)), (.int i3), (.ref o1)])) _
  refine st5 _ ?_
  show Steps p.tables e below (T5.setTop (mkF m 65 #[.val (.ref o0), .val (.ref o1), .val (.ref o2), .val (.int i3), s4, s5] [])) _
  refine XS.iinc X5.here hx rfl (hb hby d1_65) rfl (l' := #[.val (.ref o0), .val (.ref o1), .val (.ref o2), .val (.int (i3 + (1 : Int32))), s4, s5]) rfl ?_
  show Steps p.tables e below (T5.setTop (mkF m 68 #[.val (.ref o0), .val (.ref o1), .val (.ref o2), .val (.int (i3 + (1 : Int32))), s4, s5] [])) _
  refine XS.goto X5.here hx rfl (pc0 := 68) (pc' := 47) rfl (hb hby d1_68) (by decide) (by decide) ?_
  exact kt

set_option maxRecDepth 65536 in
set_option maxHeartbeats 40000000 in
theorem tn1_47_71 {p : Program} {l : Launch} {e : Env} {R : Room} {s : State} {m : MethodId} {args : Array Value} {below : List Frame} {meth : Method} {c : Code} {T0 : State} {locs : List Loc} {cells slots : Nat} {Z : State} {a0 : Array Value} {h0 : Heap} (o0 : Addr) (s1 : Slot) (s2 : Slot) (i3 : Int32) (s4 : Slot) (s5 : Slot) (cl_o0 : Cell) (z_o0 : Int32)
    (X0 : Stand p l e R s m args below meth c T0 locs cells slots) (hx : p.tables.exec = Jvm.exec) (hZ : Z.Warmed39 s.vm) (hw : ∀ d ∈ tables_1, d.before a0 Z = true) (hby : c.code = prog_103_method_23_code) (hml : c.maxLocals = 6) (hown : s.vm.findClass "com/example/libpiecewise/libpiecewise/TransformationMonoid" = some m.cls) (e0 : T0.heap = h0) (Ar_o0 : Arr Z h0 o0 cl_o0 .int) (S_o0 : cl_o0.slots.size = z_o0.toNatClampNeg) (N_o0 : ¬ z_o0 < 0) (hc50 : ¬ (i3 < z_o0)) :
    ∃ (T' : State), Stand p l e R s m args below meth c T' locs cells slots ∧ T'.heap = h0 ∧
      ∀ target, Steps p.tables e below (T'.setTop (mkF m 71 #[.val (.ref o0), s1, s2, .val (.int i3), s4, s5] [])) target → Steps p.tables e below (T0.setTop (mkF m 47 #[.val (.ref o0), s1, s2, .val (.int i3), s4, s5] [])) target := by

  refine ⟨T0, X0, e0, fun target kt => ?_⟩
  show Steps p.tables e below (T0.setTop (mkF m 47 #[.val (.ref o0), s1, s2, .val (.int i3), s4, s5] [])) _
  refine XS.iloadN X0.here hx rfl (hb hby d1_47) rfl ?_
  show Steps p.tables e below (T0.setTop (mkF m 48 #[.val (.ref o0), s1, s2, .val (.int i3), s4, s5] [(.int i3)])) _
  refine XS.aloadN X0.here hx rfl (hb hby d1_48) rfl rfl ?_
  show Steps p.tables e below (T0.setTop (mkF m 49 #[.val (.ref o0), s1, s2, .val (.int i3), s4, s5] [(.ref o0), (.int i3)])) _
  refine X0.arraylength hx (by rw [e0]; exact Ar_o0.1) (State.isArrayOf_alike hZ.alike Ar_o0.2.1) (g := (mkF m 49 #[.val (.ref o0), s1, s2, .val (.int i3), s4, s5] [(.ref o0), (.int i3)])) rfl rfl (hb hby d1_49) _ ?_
  rw [len_of S_o0 N_o0]
  show Steps p.tables e below (T0.setTop (mkF m 50 #[.val (.ref o0), s1, s2, .val (.int i3), s4, s5] [(.int z_o0), (.int i3)])) _
  refine XS.icmpYes X0.here hx rfl (pc0 := 50) (pc' := 71) rfl (hb hby d1_50) rfl (flt hc50).2.1 (by decide) (by decide) ?_
  exact kt

theorem loop2 {p : Program} {l : Launch} {e : Env} {s : State} {m : MethodId} {args : Array Value} {below : List Frame} {meth : Method} {c : Code} {Z : State} {a0 : Array Value} {H0 : Heap} (ta ca rr : Addr) (kr : ClassId) (n : Nat) (tv : Nat → Nat) (s4 s5 : Slot) (n0 : Nat) (hx : p.tables.exec = Jvm.exec) (hZ : Z.Warmed39 s.vm) (hw : ∀ d ∈ tables_1, d.before a0 Z = true) (hby : c.code = prog_103_method_23_code) (hml : c.maxLocals = 6) (hown : s.vm.findClass "com/example/libpiecewise/libpiecewise/TransformationMonoid" = some m.cls) (hn : n ≤ 4) (htv : ∀ j, j < n → tv j < n) (hca : H0.size ≤ ca) (gca : n0 ≤ ca) (hrr : H0.size ≤ rr) (grr : n0 ≤ rr) (hta : ta < H0.size) (ne12 : ca ≠ rr) (OV : OvrA Z kr .int "[I") (Zn : n0 ≤ H0.size) :
    ∀ (k i : Nat) (T0 : State) (h : Heap) (locs : List Loc) (r : Nat → Addr), i + k = n → Stand p l e ({ frames := 0, cells := 6, slots := 24, locals := 0 } : Room) s m args below meth c T0 locs (2 + i) (8 + 4 * i) → T0.heap = h → Fr n0 locs → Keep H0 h [] → own_arr Z h ta n (own_ft tv) ∧ own_arr Z h ca n (fun q => if q < i then 0 else Int32.ofNat (own_cnt tv n q)) ∧ own_rows Z h rr kr n (fun q => if q < i then .ref (r q) else .null) ∧ (∀ q, q < i → own_arr Z h (r q) (own_cnt tv n q) (fun _ => 0)) ∧ (∀ q, q < i → H0.size ≤ r q ∧ r q ≠ ca ∧ r q ≠ rr ∧ ∀ q', q' < i → q ≠ q' → r q ≠ r q') →
      ∃ (T' : State) (h' : Heap) (locs' : List Loc) (r' : Nat → Addr), Stand p l e ({ frames := 0, cells := 6, slots := 24, locals := 0 } : Room) s m args below meth c T' locs' (2 + n) (8 + 4 * n) ∧ T'.heap = h' ∧ Fr n0 locs' ∧ Keep H0 h' [] ∧ (own_arr Z h' ta n (own_ft tv) ∧ own_arr Z h' ca n (fun q => if q < n then 0 else Int32.ofNat (own_cnt tv n q)) ∧ own_rows Z h' rr kr n (fun q => if q < n then .ref (r' q) else .null) ∧ (∀ q, q < n → own_arr Z h' (r' q) (own_cnt tv n q) (fun _ => 0)) ∧ (∀ q, q < n → H0.size ≤ r' q ∧ r' q ≠ ca ∧ r' q ≠ rr ∧ ∀ q', q' < n → q ≠ q' → r' q ≠ r' q')) ∧
        ∀ target, Steps p.tables e below (T'.setTop (mkF m 71 #[.val (.ref ta), .val (.ref ca), .val (.ref rr), .val (.int (Int32.ofNat n)), s4, s5] [])) target → Steps p.tables e below (T0.setTop (mkF m 47 #[.val (.ref ta), .val (.ref ca), .val (.ref rr), .val (.int (Int32.ofNat i)), s4, s5] [])) target := by
  intro k
  induction k with
  | zero =>
    intro i T0 h locs r hi X0 e0 N0 K0 I0
    have hi' : i = n := by omega
    subst hi'
    have I1 := I0
    obtain ⟨⟨ct, At, St, Ht⟩, -⟩ := I1
    obtain ⟨T', X', e', st⟩ := tn1_47_71 ta (.val (.ref ca)) (.val (.ref rr)) (Int32.ofNat i) s4 s5 ct (Int32.ofNat i) X0 hx hZ hw hby hml hown e0 At (by rw [own_n32 (by omega)]; exact St) (own_nn (by omega)) Int32.lt_irrefl
    exact ⟨T', h, locs, r, X', e', N0, K0, I0, st⟩
  | succ k ih =>
    intro i T0 h locs r hi X0 e0 N0 K0 I0
    obtain ⟨Vt, Vc, Vr, Va, D⟩ := I0
    have hil : i < n := by omega
    have hcl := own_cnt_le tv i n
    have Vt' := Vt
    obtain ⟨ct, At, St, Ht⟩ := Vt'
    have Vc' := Vc
    obtain ⟨cc, Ac, Sc, Hc⟩ := Vc'
    have Vr' := Vr
    obtain ⟨cr, Ar, qr, Sr, Hr⟩ := Vr'
    have hcv : cc.slots[(Int32.ofNat i).toNatClampNeg]? = some (.int (Int32.ofNat (own_cnt tv n i))) := by
      have := own_hat (f := fun q => if q < i then 0 else Int32.ofNat (own_cnt tv n q)) Hc hil (by omega)
      rw [this]
      show some (Value.int (if i < i then 0 else Int32.ofNat (own_cnt tv n i))) = _
      rw [if_neg (Nat.lt_irrefl i)]
    obtain ⟨T1, h3, h4, h5, L1, b, kb, X1, e1, N1, E1, gb, A1, W4, W5, st1⟩ := tn1_47_47 ta ca rr (Int32.ofNat i) s4 s5 ct (Int32.ofNat n) (Int32.ofNat (own_cnt tv n i)) cc cr kr n0 X0 hx hZ hw hby hml hown e0 (Nat.le_trans Zn K0.1) N0 (by omega) (by omega) (own_nn (by omega)) (by rw [own_n32 (by omega)]; omega) qr OV ne12 At (by rw [own_n32 (by omega)]; exact St) (own_nn (by omega)) Ac (own_in Sc hil (by omega)) hcv Ar (own_in Sr hil (by omega)) grr (own_in Sc hil (by omega)) gca ((own_lt_iff (by omega) (by omega)).2 hil)
    have bt : ∀ {x : Addr}, x < h.size → x ≠ b := fun q e => by rw [e, gb] at q; exact Nat.lt_irrefl _ q
    have hb0 : H0.size ≤ b := by rw [gb]; exact K0.1
    have K3 : Keep H0 h3 [] := K0.ext E1
    have K5 : Keep H0 h5 [] := (K3.wr W4 (Or.inr hrr)).wr W5 (Or.inr hca)
    have ntr : ta ≠ rr := Nat.ne_of_lt (Nat.lt_of_lt_of_le hta hrr)
    have ntc : ta ≠ ca := Nat.ne_of_lt (Nat.lt_of_lt_of_le hta hca)
    have Vt5 := ((Vt.ext E1).other W4 ntr).other W5 ntc
    have Vc5 : own_arr Z h5 ca n (fun q => if q < i + 1 then 0 else Int32.ofNat (own_cnt tv n q)) := by
      have V4 := (Vc.ext E1).other W4 ne12
      obtain ⟨c4, a4, s4', q4⟩ := V4
      refine (own_arr.set a4 s4' q4 W5 hil (by omega)).congr fun j hj => ?_
      show (if j = i then 0 else if j < i then 0 else Int32.ofNat (own_cnt tv n j)) = _
      by_cases e : j = i
      · rw [if_pos e, if_pos (by omega)]
      · rw [if_neg e]
        by_cases e2 : j < i
        · rw [if_pos e2, if_pos (by omega)]
        · rw [if_neg e2, if_neg (by omega)]
    have Vr5 : own_rows Z h5 rr kr n (fun q => if q < i + 1 then .ref (if q = i then b else r q) else .null) := by
      have S4 := own_set (v := .ref b) (g := fun q => if q < i then .ref (r q) else .null) Sr Hr hil (by omega)
      have R4 : own_rows Z h4 rr kr n (fun q => if q = i then .ref b else if q < i then .ref (r q) else .null) := ⟨_, (Ar.ext E1).same W4, qr, S4.1, S4.2⟩
      refine (R4.other W5 ne12.symm).congr fun j hj => ?_
      by_cases e : j = i
      · rw [if_pos e, if_pos (by omega), if_pos e]
      · rw [if_neg e]
        by_cases e2 : j < i
        · rw [if_pos e2, if_pos (by omega), if_neg e]
        · rw [if_neg e2, if_neg (by omega)]
    have nbr : b ≠ rr := (bt Vr.lt).symm
    have nbc : b ≠ ca := (bt Vc.lt).symm
    have Va5 : ∀ q, q < i + 1 → own_arr Z h5 (if q = i then b else r q) (own_cnt tv n q) (fun _ => 0) := by
      intro q hq
      by_cases e : q = i
      · rw [if_pos e, e]
        exact ((own_arr.new A1 (by omega)).other W4 nbr).other W5 nbc
      · rw [if_neg e]
        have d := D q (by omega)
        exact (((Va q (by omega)).ext E1).other W4 d.2.2.1).other W5 d.2.1
    have D5 : ∀ q, q < i + 1 → H0.size ≤ (if q = i then b else r q) ∧ (if q = i then b else r q) ≠ ca ∧ (if q = i then b else r q) ≠ rr ∧ ∀ q', q' < i + 1 → q ≠ q' → (if q = i then b else r q) ≠ (if q' = i then b else r q') := by
      intro q hq
      by_cases e : q = i
      · rw [if_pos e]
        refine ⟨hb0, nbc, nbr, fun q' hq' hne => ?_⟩
        rw [if_neg (by omega)]
        exact (bt (Va q' (by omega)).lt).symm
      · rw [if_neg e]
        have d := D q (by omega)
        refine ⟨d.1, d.2.1, d.2.2.1, fun q' hq' hne => ?_⟩
        by_cases e2 : q' = i
        · rw [if_pos e2]; exact bt (Va q (by omega)).lt
        · rw [if_neg e2]; exact d.2.2.2 q' (by omega) hne
    obtain ⟨T', h', L', r', X', e', N', K', I', st⟩ := ih (i + 1) T1 h5 L1 (fun q => if q = i then b else r q) (by omega) X1 e1 N1 K5 ⟨Vt5, Vc5, Vr5, Va5, D5⟩
    refine ⟨T', h', L', r', X', e', N', K', I', fun target hh => st1 target ?_⟩
    rw [own_one]
    exact st target hh
set_option maxRecDepth 65536 in
set_option maxHeartbeats 40000000 in
theorem tn1_73_73 {p : Program} {l : Launch} {e : Env} {R : Room} {s : State} {m : MethodId} {args : Array Value} {below : List Frame} {meth : Method} {c : Code} {T0 : State} {locs : List Loc} {cells slots : Nat} {Z : State} {a0 : Array Value} {h0 : Heap} (o0 : Addr) (o1 : Addr) (o2 : Addr) (i3 : Int32) (s4 : Slot) (s5 : Slot) (cl_o0 : Cell) (z_o0 : Int32) (w2 : Int32) (w3 : Addr) (cl_o2 : Cell) (w4 : Int32) (cl_o1 : Cell) (cl_w3 : Cell) (n0 : Nat)
    (X0 : Stand p l e R s m args below meth c T0 locs cells slots) (hx : p.tables.exec = Jvm.exec) (hZ : Z.Warmed39 s.vm) (hw : ∀ d ∈ tables_1, d.before a0 Z = true) (hby : c.code = prog_103_method_23_code) (hml : c.maxLocals = 6) (hown : s.vm.findClass "com/example/libpiecewise/libpiecewise/TransformationMonoid" = some m.cls) (e0 : T0.heap = h0) (N0 : Fr n0 locs) (ne31 : w3 ≠ o1) (Ar_o0 : Arr Z h0 o0 cl_o0 .int) (S_o0 : cl_o0.slots.size = z_o0.toNatClampNeg) (N_o0 : ¬ z_o0 < 0) (hin81 : ¬ (i3 < 0 ∨ cl_o0.slots.size ≤ (i3).toNatClampNeg)) (hat81 : cl_o0.slots[(i3).toNatClampNeg]? = some (.int w2)) (hs4 : One s4) (Ar_o2 : Arr Z h0 o2 cl_o2 (.array .int)) (hin87 : ¬ (w2 < 0 ∨ cl_o2.slots.size ≤ (w2).toNatClampNeg)) (hat87 : cl_o2.slots[(w2).toNatClampNeg]? = some (.ref w3)) (Ar_o1 : Arr Z h0 o1 cl_o1 .int) (hin92 : ¬ (w2 < 0 ∨ cl_o1.slots.size ≤ (w2).toNatClampNeg)) (hat92 : cl_o1.slots[(w2).toNatClampNeg]? = some (.int w4)) (hin96 : ¬ (w2 < 0 ∨ cl_o1.slots.size ≤ (w2).toNatClampNeg)) (g_o1 : n0 ≤ o1) (Ar_w3 : Arr Z h0 w3 cl_w3 .int) (hin98 : ¬ (w4 < 0 ∨ cl_w3.slots.size ≤ (w4).toNatClampNeg)) (g_w3 : n0 ≤ w3) (hc76 : i3 < z_o0) :
    ∃ (T' : State) (h5 h' : Heap) (locs' : List Loc), Stand p l e R s m args below meth c T' locs' cells slots ∧ T'.heap = h' ∧ Fr n0 locs' ∧ Wr h0 h5 o1 (w2).toNatClampNeg (.int (w4 + (1 : Int32))) ∧ Wr h5 h' w3 (w4).toNatClampNeg (.int i3) ∧
      ∀ target, Steps p.tables e below (T'.setTop (mkF m 73 #[.val (.ref o0), .val (.ref o1), .val (.ref o2), .val (.int (i3 + (1 : Int32))), .val (.int w2), s5] [])) target → Steps p.tables e below (T0.setTop (mkF m 73 #[.val (.ref o0), .val (.ref o1), .val (.ref o2), .val (.int i3), s4, s5] [])) target := by
  obtain ⟨T5, h5, X5, e5, W5, st5⟩ := stI X0 hx hZ e0 Ar_o1 (j := w2) hin96 (g := (mkF m 96 #[.val (.ref o0), .val (.ref o1), .val (.ref o2), .val (.int i3), .val (.int w2), s5] [(.int (w4 + (1 : Int32))), (.int w2), (.ref o1), (.int w4), (.ref w3)])) rfl rfl (hb hby d1_96)
  have N5 := Fr.snoc X5 N0 g_o1
  obtain ⟨T6, h6, X6, e6, W6, st6⟩ := stI X5 hx hZ e5 (Ar_w3.other W5 ne31) (j := w4) hin98 (g := (mkF m 98 #[.val (.ref o0), .val (.ref o1), .val (.ref o2), .val (.int i3), .val (.int w2), s5] [(.int i3), (.int w4), (.ref w3)])) rfl rfl (hb hby d1_98)
  have N6 := Fr.snoc X6 N5 g_w3
  refine ⟨T6, h5, _, _, X6, e6, N6, W5, W6, fun target kt => ?_⟩
  show Steps p.tables e below (T0.setTop (mkF m 73 #[.val (.ref o0), .val (.ref o1), .val (.ref o2), .val (.int i3), s4, s5] [])) _
  refine XS.iloadN X0.here hx rfl (hb hby d1_73) rfl ?_
  show Steps p.tables e below (T0.setTop (mkF m 74 #[.val (.ref o0), .val (.ref o1), .val (.ref o2), .val (.int i3), s4, s5] [(.int i3)])) _
  refine XS.aloadN X0.here hx rfl (hb hby d1_74) rfl rfl ?_
  show Steps p.tables e below (T0.setTop (mkF m 75 #[.val (.ref o0), .val (.ref o1), .val (.ref o2), .val (.int i3), s4, s5] [(.ref o0), (.int i3)])) _
  refine X0.arraylength hx (by rw [e0]; exact Ar_o0.1) (State.isArrayOf_alike hZ.alike Ar_o0.2.1) (g := (mkF m 75 #[.val (.ref o0), .val (.ref o1), .val (.ref o2), .val (.int i3), s4, s5] [(.ref o0), (.int i3)])) rfl rfl (hb hby d1_75) _ ?_
  rw [len_of S_o0 N_o0]
  show Steps p.tables e below (T0.setTop (mkF m 76 #[.val (.ref o0), .val (.ref o1), .val (.ref o2), .val (.int i3), s4, s5] [(.int z_o0), (.int i3)])) _
  refine XS.icmpNo X0.here hx rfl (hb hby d1_76) rfl (tlt hc76).2.1 ?_
  show Steps p.tables e below (T0.setTop (mkF m 79 #[.val (.ref o0), .val (.ref o1), .val (.ref o2), .val (.int i3), s4, s5] [])) _
  refine XS.aloadN X0.here hx rfl (hb hby d1_79) rfl rfl ?_
  show Steps p.tables e below (T0.setTop (mkF m 80 #[.val (.ref o0), .val (.ref o1), .val (.ref o2), .val (.int i3), s4, s5] [(.ref o0)])) _
  refine XS.iloadN X0.here hx rfl (hb hby d1_80) rfl ?_
  show Steps p.tables e below (T0.setTop (mkF m 81 #[.val (.ref o0), .val (.ref o1), .val (.ref o2), .val (.int i3), s4, s5] [(.int i3), (.ref o0)])) _
  refine X0.iaload hx (j := i3) (v := (.int w2)) (by rw [e0]; exact Ar_o0.1) (State.isArrayOf_alike hZ.alike Ar_o0.2.1) Ar_o0.2.2 hin81 hat81 (g := (mkF m 81 #[.val (.ref o0), .val (.ref o1), .val (.ref o2), .val (.int i3), s4, s5] [(.int i3), (.ref o0)])) rfl rfl (hb hby d1_81) _ ?_
  show Steps p.tables e below (T0.setTop (mkF m 82 #[.val (.ref o0), .val (.ref o1), .val (.ref o2), .val (.int i3), s4, s5] [(.int w2)])) _
  refine XS.istore X0.here hx rfl (hb hby d1_82) rfl (l' := #[.val (.ref o0), .val (.ref o1), .val (.ref o2), .val (.int i3), .val (.int w2), s5]) (os1_82 hs4) ?_
  show Steps p.tables e below (T0.setTop (mkF m 84 #[.val (.ref o0), .val (.ref o1), .val (.ref o2), .val (.int i3), .val (.int w2), s5] [])) _
  refine XS.aloadN X0.here hx rfl (hb hby d1_84) rfl rfl ?_
  show Steps p.tables e below (T0.setTop (mkF m 85 #[.val (.ref o0), .val (.ref o1), .val (.ref o2), .val (.int i3), .val (.int w2), s5] [(.ref o2)])) _
  refine XS.iload X0.here hx rfl (hb hby d1_85) rfl ?_
  show Steps p.tables e below (T0.setTop (mkF m 87 #[.val (.ref o0), .val (.ref o1), .val (.ref o2), .val (.int i3), .val (.int w2), s5] [(.int w2), (.ref o2)])) _
  refine X0.aaload hx (j := w2) (v := (.ref w3)) (by rw [e0]; exact Ar_o2.1) (State.isArrayOf_alike hZ.alike Ar_o2.2.1) rfl Ar_o2.2.2 hin87 hat87 (g := (mkF m 87 #[.val (.ref o0), .val (.ref o1), .val (.ref o2), .val (.int i3), .val (.int w2), s5] [(.int w2), (.ref o2)])) rfl rfl (hb hby d1_87) _ ?_
  show Steps p.tables e below (T0.setTop (mkF m 88 #[.val (.ref o0), .val (.ref o1), .val (.ref o2), .val (.int i3), .val (.int w2), s5] [(.ref w3)])) _
  refine XS.aloadN X0.here hx rfl (hb hby d1_88) rfl rfl ?_
  show Steps p.tables e below (T0.setTop (mkF m 89 #[.val (.ref o0), .val (.ref o1), .val (.ref o2), .val (.int i3), .val (.int w2), s5] [(.ref o1), (.ref w3)])) _
  refine XS.iload X0.here hx rfl (hb hby d1_89) rfl ?_
  show Steps p.tables e below (T0.setTop (mkF m 91 #[.val (.ref o0), .val (.ref o1), .val (.ref o2), .val (.int i3), .val (.int w2), s5] [(.int w2), (.ref o1), (.ref w3)])) _
  jvm_step X0.here [X0.here.top, hx, (hb hby d1_91), Value.category]
  show Steps p.tables e below (T0.setTop (mkF m 92 #[.val (.ref o0), .val (.ref o1), .val (.ref o2), .val (.int i3), .val (.int w2), s5] [(.int w2), (.ref o1), (.int w2), (.ref o1), (.ref w3)])) _
  refine X0.iaload hx (j := w2) (v := (.int w4)) (by rw [e0]; exact Ar_o1.1) (State.isArrayOf_alike hZ.alike Ar_o1.2.1) Ar_o1.2.2 hin92 hat92 (g := (mkF m 92 #[.val (.ref o0), .val (.ref o1), .val (.ref o2), .val (.int i3), .val (.int w2), s5] [(.int w2), (.ref o1), (.int w2), (.ref o1), (.ref w3)])) rfl rfl (hb hby d1_92) _ ?_
  show Steps p.tables e below (T0.setTop (mkF m 93 #[.val (.ref o0), .val (.ref o1), .val (.ref o2), .val (.int i3), .val (.int w2), s5] [(.int w4), (.int w2), (.ref o1), (.ref w3)])) _
  jvm_step X0.here [X0.here.top, hx, (hb hby d1_93), Value.category]
  show Steps p.tables e below (T0.setTop (mkF m 94 #[.val (.ref o0), .val (.ref o1), .val (.ref o2), .val (.int i3), .val (.int w2), s5] [(.int w4), (.int w2), (.ref o1), (.int w4), (.ref w3)])) _
  refine XS.iconst X0.here hx rfl (hb hby d1_94) ?_
  show Steps p.tables e below (T0.setTop (mkF m 95 #[.val (.ref o0), .val (.ref o1), .val (.ref o2), .val (.int i3), .val (.int w2), s5] [(.int (1 : Int32)), (.int w4), (.int w2), (.ref o1), (.int w4), (.ref w3)])) _
  refine XS.iadd X0.here hx rfl (hb hby d1_95) rfl ?_
  show Steps p.tables e below (T0.setTop (mkF m 96 #[.val (.ref o0), .val (.ref o1), .val (.ref o2), .val (.int i3), .val (.int w2), s5] [(.int (w4 + (1 : Int32))), (.int w2), (.ref o1), (.int w4), (.ref w3)])) _
  refine st5 _ ?_
  show Steps p.tables e below (T5.setTop (mkF m 97 #[.val (.ref o0), .val (.ref o1), .val (.ref o2), .val (.int i3), .val (.int w2), s5] [(.int w4), (.ref w3)])) _
  refine XS.iloadN X5.here hx rfl (hb hby d1_97) rfl ?_
  show Steps p.tables e below (T5.setTop (mkF m 98 #[.val (.ref o0), .val (.ref o1), .val (.ref o2), .val (.int i3), .val (.int w2), s5] [(.int i3), (.int w4), (.ref w3)])) _
  refine st6 _ ?_
  show Steps p.tables e below (T6.setTop (mkF m 99 #[.val (.ref o0), .val (.ref o1), .val (.ref o2), .val (.int i3), .val (.int w2), s5] [])) _
  refine XS.iinc X6.here hx rfl (hb hby d1_99) rfl (l' := #[.val (.ref o0), .val (.ref o1), .val (.ref o2), .val (.int (i3 + (1 : Int32))), .val (.int w2), s5]) rfl ?_
  show Steps p.tables e below (T6.setTop (mkF m 102 #[.val (.ref o0), .val (.ref o1), .val (.ref o2), .val (.int (i3 + (1 : Int32))), .val (.int w2), s5] [])) _
  refine XS.goto X6.here hx rfl (pc0 := 102) (pc' := 73) rfl (hb hby d1_102) (by decide) (by decide) ?_
  exact kt

set_option maxRecDepth 65536 in
set_option maxHeartbeats 40000000 in
theorem tn1_73_105 {p : Program} {l : Launch} {e : Env} {R : Room} {s : State} {m : MethodId} {args : Array Value} {below : List Frame} {meth : Method} {c : Code} {T0 : State} {locs : List Loc} {cells slots : Nat} {Z : State} {a0 : Array Value} {h0 : Heap} (o0 : Addr) (s1 : Slot) (s2 : Slot) (i3 : Int32) (s4 : Slot) (s5 : Slot) (cl_o0 : Cell) (z_o0 : Int32)
    (X0 : Stand p l e R s m args below meth c T0 locs cells slots) (hx : p.tables.exec = Jvm.exec) (hZ : Z.Warmed39 s.vm) (hw : ∀ d ∈ tables_1, d.before a0 Z = true) (hby : c.code = prog_103_method_23_code) (hml : c.maxLocals = 6) (hown : s.vm.findClass "com/example/libpiecewise/libpiecewise/TransformationMonoid" = some m.cls) (e0 : T0.heap = h0) (Ar_o0 : Arr Z h0 o0 cl_o0 .int) (S_o0 : cl_o0.slots.size = z_o0.toNatClampNeg) (N_o0 : ¬ z_o0 < 0) (hc76 : ¬ (i3 < z_o0)) :
    ∃ (T' : State), Stand p l e R s m args below meth c T' locs cells slots ∧ T'.heap = h0 ∧
      ∀ target, Steps p.tables e below (T'.setTop (mkF m 105 #[.val (.ref o0), s1, s2, .val (.int i3), s4, s5] [])) target → Steps p.tables e below (T0.setTop (mkF m 73 #[.val (.ref o0), s1, s2, .val (.int i3), s4, s5] [])) target := by

  refine ⟨T0, X0, e0, fun target kt => ?_⟩
  show Steps p.tables e below (T0.setTop (mkF m 73 #[.val (.ref o0), s1, s2, .val (.int i3), s4, s5] [])) _
  refine XS.iloadN X0.here hx rfl (hb hby d1_73) rfl ?_
  show Steps p.tables e below (T0.setTop (mkF m 74 #[.val (.ref o0), s1, s2, .val (.int i3), s4, s5] [(.int i3)])) _
  refine XS.aloadN X0.here hx rfl (hb hby d1_74) rfl rfl ?_
  show Steps p.tables e below (T0.setTop (mkF m 75 #[.val (.ref o0), s1, s2, .val (.int i3), s4, s5] [(.ref o0), (.int i3)])) _
  refine X0.arraylength hx (by rw [e0]; exact Ar_o0.1) (State.isArrayOf_alike hZ.alike Ar_o0.2.1) (g := (mkF m 75 #[.val (.ref o0), s1, s2, .val (.int i3), s4, s5] [(.ref o0), (.int i3)])) rfl rfl (hb hby d1_75) _ ?_
  rw [len_of S_o0 N_o0]
  show Steps p.tables e below (T0.setTop (mkF m 76 #[.val (.ref o0), s1, s2, .val (.int i3), s4, s5] [(.int z_o0), (.int i3)])) _
  refine XS.icmpYes X0.here hx rfl (pc0 := 76) (pc' := 105) rfl (hb hby d1_76) rfl (flt hc76).2.1 (by decide) (by decide) ?_
  exact kt

set_option maxRecDepth 65536 in
set_option maxHeartbeats 40000000 in
theorem tn1_71_73 {p : Program} {l : Launch} {e : Env} {R : Room} {s : State} {m : MethodId} {args : Array Value} {below : List Frame} {meth : Method} {c : Code} {T0 : State} {locs : List Loc} {cells slots : Nat} {Z : State} {a0 : Array Value} {h0 : Heap} (s0 : Slot) (s1 : Slot) (s2 : Slot) (s3 : Slot) (s4 : Slot) (s5 : Slot)
    (X0 : Stand p l e R s m args below meth c T0 locs cells slots) (hx : p.tables.exec = Jvm.exec) (hZ : Z.Warmed39 s.vm) (hw : ∀ d ∈ tables_1, d.before a0 Z = true) (hby : c.code = prog_103_method_23_code) (hml : c.maxLocals = 6) (hown : s.vm.findClass "com/example/libpiecewise/libpiecewise/TransformationMonoid" = some m.cls) (e0 : T0.heap = h0) (hs3 : One s3) :
    ∃ (T' : State), Stand p l e R s m args below meth c T' locs cells slots ∧ T'.heap = h0 ∧
      ∀ target, Steps p.tables e below (T'.setTop (mkF m 73 #[s0, s1, s2, .val (.int (0 : Int32)), s4, s5] [])) target → Steps p.tables e below (T0.setTop (mkF m 71 #[s0, s1, s2, s3, s4, s5] [])) target := by

  refine ⟨T0, X0, e0, fun target kt => ?_⟩
  show Steps p.tables e below (T0.setTop (mkF m 71 #[s0, s1, s2, s3, s4, s5] [])) _
  refine XS.iconst X0.here hx rfl (hb hby d1_71) ?_
  show Steps p.tables e below (T0.setTop (mkF m 72 #[s0, s1, s2, s3, s4, s5] [(.int (0 : Int32))])) _
  refine XS.istoreN X0.here hx rfl (hb hby d1_72) rfl (l' := #[s0, s1, s2, .val (.int (0 : Int32)), s4, s5]) (os1_72 hs3) ?_
  exact kt

theorem loop3 {p : Program} {l : Launch} {e : Env} {s : State} {m : MethodId} {args : Array Value} {below : List Frame} {meth : Method} {c : Code} {R : Room} {cells slots : Nat} {Z : State} {a0 : Array Value} {H0 : Heap} (ta ca rr : Addr) (kr : ClassId) (n : Nat) (tv : Nat → Nat) (r : Nat → Addr) (s5 : Slot) (n0 : Nat) (hx : p.tables.exec = Jvm.exec) (hZ : Z.Warmed39 s.vm) (hw : ∀ d ∈ tables_1, d.before a0 Z = true) (hby : c.code = prog_103_method_23_code) (hml : c.maxLocals = 6) (hown : s.vm.findClass "com/example/libpiecewise/libpiecewise/TransformationMonoid" = some m.cls) (hn : n ≤ 4) (htv : ∀ j, j < n → tv j < n) (hca : H0.size ≤ ca) (gca : n0 ≤ ca) (hrr : H0.size ≤ rr) (hta : ta < H0.size) (ne12 : ca ≠ rr) (Zn : n0 ≤ H0.size) (D : (∀ q, q < n → H0.size ≤ r q ∧ r q ≠ ca ∧ r q ≠ rr ∧ ∀ q', q' < n → q ≠ q' → r q ≠ r q')) :
    ∀ (k i : Nat) (s4 : Slot) (T0 : State) (h : Heap) (locs : List Loc) (G : Nat → Nat → Int32), i + k = n → One s4 → Stand p l e R s m args below meth c T0 locs cells slots → T0.heap = h → Fr n0 locs → Keep H0 h [] → own_arr Z h ta n (own_ft tv) ∧ own_arr Z h ca n (fun q => Int32.ofNat (own_cnt tv i q)) ∧ own_rows Z h rr kr n (fun q => .ref (r q)) ∧ (∀ q, q < n → own_arr Z h (r q) (own_cnt tv n q) (G q)) ∧ (∀ j, j < i → G (tv j) (own_cnt tv j (tv j)) = Int32.ofNat j) →
      ∃ (T' : State) (h' : Heap) (locs' : List Loc) (G' : Nat → Nat → Int32) (s4' : Slot), Stand p l e R s m args below meth c T' locs' cells slots ∧ T'.heap = h' ∧ Fr n0 locs' ∧ Keep H0 h' [] ∧ (own_arr Z h' ta n (own_ft tv) ∧ own_arr Z h' ca n (fun q => Int32.ofNat (own_cnt tv n q)) ∧ own_rows Z h' rr kr n (fun q => .ref (r q)) ∧ (∀ q, q < n → own_arr Z h' (r q) (own_cnt tv n q) (G' q)) ∧ (∀ j, j < n → G' (tv j) (own_cnt tv j (tv j)) = Int32.ofNat j)) ∧
        ∀ target, Steps p.tables e below (T'.setTop (mkF m 105 #[.val (.ref ta), .val (.ref ca), .val (.ref rr), .val (.int (Int32.ofNat n)), s4', s5] [])) target → Steps p.tables e below (T0.setTop (mkF m 73 #[.val (.ref ta), .val (.ref ca), .val (.ref rr), .val (.int (Int32.ofNat i)), s4, s5] [])) target := by
  intro k
  induction k with
  | zero =>
    intro i s4 T0 h locs G hi h4 X0 e0 N0 K0 I0
    have hi' : i = n := by omega
    subst hi'
    have I1 := I0
    obtain ⟨⟨ct, At, St, Ht⟩, -⟩ := I1
    obtain ⟨T', X', e', st⟩ := tn1_73_105 ta (.val (.ref ca)) (.val (.ref rr)) (Int32.ofNat i) s4 s5 ct (Int32.ofNat i) X0 hx hZ hw hby hml hown e0 At (by rw [own_n32 (by omega)]; exact St) (own_nn (by omega)) Int32.lt_irrefl
    exact ⟨T', h, locs, G, s4, X', e', N0, K0, I0, st⟩
  | succ k ih =>
    intro i s4 T0 h locs G hi h4 X0 e0 N0 K0 I0
    obtain ⟨Vt, Vc, Vr, Va, VG⟩ := I0
    have hil : i < n := by omega
    have hv := htv i hil
    have hlt := own_cnt_lt tv (tv i) i n hil rfl
    have hle := own_cnt_le tv (tv i) n
    have Vt' := Vt
    obtain ⟨ct, At, St, Ht⟩ := Vt'
    have Vc' := Vc
    obtain ⟨cc, Ac, Sc, Hc⟩ := Vc'
    have Vr' := Vr
    obtain ⟨cr, Ar, qr, Sr, Hr⟩ := Vr'
    have Va' := Va (tv i) hv
    obtain ⟨cw, Aw, Sw, Hw⟩ := Va'
    obtain ⟨T1, h5, h6, L1, X1, e1, N1, W5, W6, st1⟩ := tn1_73_73 ta ca rr (Int32.ofNat i) s4 s5 ct (Int32.ofNat n) (Int32.ofNat (tv i)) (r (tv i)) cr (Int32.ofNat (own_cnt tv i (tv i))) cc cw n0 X0 hx hZ hw hby hml hown e0 N0 (D (tv i) hv).2.1 At (by rw [own_n32 (by omega)]; exact St) (own_nn (by omega)) (own_in St hil (by omega)) (own_hat Ht hil (by omega)) h4 Ar (own_in Sr hv (by omega)) (by rw [own_n32 (by omega)]; exact Hr (tv i) hv) Ac (own_in Sc hv (by omega)) (own_hat Hc hv (by omega)) (own_in Sc hv (by omega)) gca Aw (own_in Sw hlt (by omega)) (Nat.le_trans Zn (D (tv i) hv).1) ((own_lt_iff (by omega) (by omega)).2 hil)
    have dv := D (tv i) hv
    have ntc : ta ≠ ca := Nat.ne_of_lt (Nat.lt_of_lt_of_le hta hca)
    have ntw : ta ≠ r (tv i) := Nat.ne_of_lt (Nat.lt_of_lt_of_le hta dv.1)
    have K6 : Keep H0 h6 [] := (K0.wr W5 (Or.inr hca)).wr W6 (Or.inr dv.1)
    have Vt6 := (Vt.other W5 ntc).other W6 ntw
    have Vc6 : own_arr Z h6 ca n (fun q => Int32.ofNat (own_cnt tv (i + 1) q)) := by
      refine ((own_arr.set Ac Sc Hc W5 hv (by omega)).congr fun j hj => ?_).other W6 dv.2.1.symm
      show (if j = tv i then Int32.ofNat (own_cnt tv i (tv i)) + 1 else Int32.ofNat (own_cnt tv i j)) = Int32.ofNat (own_cnt tv i j + (if tv i = j then 1 else 0))
      by_cases e : j = tv i
      · subst e; rw [if_pos rfl, if_pos rfl, own_one]
      · rw [if_neg e, if_neg (fun q => e q.symm), Nat.add_zero]
    have Vr6 := (Vr.other W5 ne12.symm).other W6 dv.2.2.1.symm
    have Va6 : ∀ q, q < n → own_arr Z h6 (r q) (own_cnt tv n q) (fun x => if q = tv i ∧ x = own_cnt tv i (tv i) then Int32.ofNat i else G q x) := by
      intro q hq
      by_cases e : q = tv i
      · subst e
        refine (own_arr.set (Aw.other W5 dv.2.1) Sw Hw W6 hlt (by omega)).congr fun j hj => ?_
        by_cases e2 : j = own_cnt tv i (tv i)
        · rw [if_pos e2, if_pos ⟨rfl, e2⟩]
        · rw [if_neg e2, if_neg (fun z => e2 z.2)]
      · refine ((((Va q hq).other W5 (D q hq).2.1).other W6 ((D q hq).2.2.2 (tv i) hv e))).congr fun j hj => ?_
        rw [if_neg (fun z => e z.1)]
    have VG6 : ∀ j, j < i + 1 → (if tv j = tv i ∧ own_cnt tv j (tv j) = own_cnt tv i (tv i) then Int32.ofNat i else G (tv j) (own_cnt tv j (tv j))) = Int32.ofNat j := by
      intro j hj
      by_cases e : j = i
      · subst e; rw [if_pos ⟨rfl, rfl⟩]
      · have hji : j < i := by omega
        rw [if_neg (fun z => by
          have := own_cnt_lt tv (tv i) j i hji z.1
          rw [z.1] at z
          omega)]
        exact VG j hji
    obtain ⟨T', h', L', G', s4', X', e', N', K', I', st⟩ := ih (i + 1) (.val (.int (Int32.ofNat (tv i)))) T1 h6 L1 (fun q x => if q = tv i ∧ x = own_cnt tv i (tv i) then Int32.ofNat i else G q x) (by omega) (One.val rfl) X1 e1 N1 K6 ⟨Vt6, Vc6, Vr6, Va6, VG6⟩
    refine ⟨T', h', L', G', s4', X', e', N', K', I', fun target hh => st1 target ?_⟩
    rw [own_one]
    exact st target hh
def Q1 (Z : State) (n : Nat) (tv : Nat → Nat) (h0 : Heap) (n0 : Nat) (v : Option Value) (h : Heap) (L : List Loc) : Prop := ∃ (rr : Addr) (kr : ClassId) (r : Nat → Addr) (G : Nat → Nat → Int32), v = some (.ref rr) ∧ Fr n0 L ∧ Keep h0 h [] ∧ own_res Z h rr kr n tv r G
set_option maxRecDepth 65536 in
set_option maxHeartbeats 40000000 in
theorem rm1 (l : Launch) (Z : State) (a0 : Array Value) (hw : ∀ d ∈ tables_1, d.before a0 Z = true) (ws : List Jvm.Cond) (a1 : Addr) (n : Nat) (tv : Nat → Nat) (h0 : Heap) (n0 : Nat) (Z0 : n0 ≤ h0.size) (hn : n ≤ 4) (htv : ∀ j, j < n → tv j < n) (V : own_arr Z h0 a1 n (own_ft tv)) :
    MetFree l (⟨"com/example/libpiecewise/libpiecewise/TransformationMonoid", "preimages", "([I)[[I"⟩ : MethodName) (head1 (Jvm.Cond.code (⟨"com/example/libpiecewise/libpiecewise/TransformationMonoid", "preimages", "([I)[[I"⟩ : MethodName) prog_103_method_23_code 6 (some (.array (.array .int))) :: ws) ({ frames := 0, cells := 6, slots := 24, locals := 0 } : Room)) (fun a U => a = #[(.ref a1)] ∧ Z.Warmed39 U.vm ∧ U.heap = h0) (fun _ _ _ _ _ => True) (fun _ U o U' => ∃ v L, o = .returned v ∧ Q1 Z n tv h0 n0 v U'.heap L ∧ FrameEnd U o U' L ({ frames := 0, cells := 6, slots := 24, locals := 0 } : Room).cells ({ frames := 0, cells := 6, slots := 24, locals := 0 } : Room).slots) := by
  refine MetFree.of_bodySF (plainFor_of_name pn_1) hisR ?_
  intro p e s m args below meth c s₁ Bd hml0 hP hK
  obtain ⟨rfl, hZ, hh⟩ := hP
  have hx := Bd.exec
  have hby := Bd.bytes
  have hml : c.maxLocals = 6 := hml0
  have hown : s.vm.findClass "com/example/libpiecewise/libpiecewise/TransformationMonoid" = some m.cls := findClass_of_methodNamed Bd.named
  have X0 : Stand p l e ({ frames := 0, cells := 6, slots := 24, locals := 0 } : Room) s m #[(.ref a1)] below meth c s₁ [] 0 0 := Stand.of_body Bd
  have e0 : s₁.heap = h0 := by rw [← hh, Bd.state]; rfl
  have N0 := Fr.nil n0
  have pre0 : ∀ t, Steps p.tables e below (s₁.setTop (mkF m 0 #[.val (.ref a1), .unset, .unset, .unset, .unset, .unset] [])) t → Steps p.tables e below (s₁.setTop (entryFrame m #[(.ref a1)] 6)) t := fun t k => castTop (ef_1 m a1) k
  have hta := V.lt
  have V' := V
  obtain ⟨ct, At, St, Ht⟩ := V'
  obtain ⟨T1, h1, ca, X1, e1, E1, g1, Vc1, st1⟩ := tn1_0_13 a1 .unset .unset .unset .unset .unset ct n n0 X0 hx hZ hw hby hml hown e0 Z0 hn At (by rw [own_n32 (by omega)]; exact St) (own_nn (by omega)) One.u One.u One.u One.u
  have hca : h0.size ≤ ca := Nat.le_of_eq g1.symm
  have gca : n0 ≤ ca := Nat.le_trans Z0 hca
  obtain ⟨T2, h2, L2, s5, X2, e2, N2, K2, Vt2, Vc2, h5, st2⟩ := loop1 a1 ca n tv n0 hx hZ hw hby hml hown hn htv hca gca hta n 0 .unset T1 h1 [] (Nat.zero_add _) One.u X1 e1 N0 ((Keep.refl h0 []).ext E1) (V.ext E1) Vc1
  have Vt2' := Vt2
  obtain ⟨ct2, At2, St2, Ht2⟩ := Vt2'
  obtain ⟨T3, h3, rr, kr, X3, e3, E3, g3, Vr3, OV, st3⟩ := tn1_39_47 a1 ca n (Int32.ofNat n) (Int32.ofNat n) s5 ct2 X2 hx hZ hw hby hml hown e2 hn At2 (by rw [own_n32 (by omega)]; exact St2)
  have hrr : h0.size ≤ rr := by rw [g3]; exact K2.1
  have grr : n0 ≤ rr := Nat.le_trans Z0 hrr
  have ne12 : ca ≠ rr := fun q => by have := Vc2.lt; rw [q, g3] at this; exact Nat.lt_irrefl _ this
  obtain ⟨T4, h4, L4, r, X4, e4, N4, K4, I4, st4⟩ := loop2 a1 ca rr kr n tv (.val (.int (Int32.ofNat n))) s5 n0 hx hZ hw hby hml hown hn htv hca gca hrr grr hta ne12 OV Z0 n 0 T3 h3 L2 (fun _ => 0) (Nat.zero_add _) X3 e3 N2 (K2.ext E3) ⟨Vt2.ext E3, Vc2.ext E3, Vr3, fun q hq => absurd hq (Nat.not_lt_zero _), fun q hq => absurd hq (Nat.not_lt_zero _)⟩
  obtain ⟨Vt4, Vc4, Vr4, Va4, D4⟩ := I4
  obtain ⟨T5, X5, e5, st5⟩ := tn1_71_73 (.val (.ref a1)) (.val (.ref ca)) (.val (.ref rr)) (.val (.int (Int32.ofNat n))) (.val (.int (Int32.ofNat n))) s5 X4 hx hZ hw hby hml hown e4 (One.val rfl)
  obtain ⟨T6, h6, L6, G, s4', X6, e6, N6, K6, I6, st6⟩ := loop3 a1 ca rr kr n tv r s5 n0 hx hZ hw hby hml hown hn htv hca gca hrr hta ne12 Z0 D4 n 0 (.val (.int (Int32.ofNat n))) T5 h4 L4 (fun _ _ => 0) (Nat.zero_add _) (One.val rfl) X5 e5 N4 K4 ⟨Vt4, Vc4.congr (fun j hj => if_pos hj), Vr4.congr (fun j hj => if_pos hj), Va4, fun j hj => absurd hj (Nat.not_lt_zero _)⟩
  obtain ⟨Vt6, Vc6, Vr6, Va6, VG6⟩ := I6
  obtain ⟨fs, hr, hrun, hended, hW, hsame⟩ := X6.leave (v := some (.ref rr)) (fun h => by rw [Bd.returns] at h; cases h)
  refine ⟨_, _, pre0 _ ?_, hrun, hended, _, _, rfl, ?_, ⟨_, rfl⟩, hW, hsame.mono (by show 2 + n ≤ 6; omega) (by show 8 + 4 * n ≤ 24; omega)⟩
  · refine st1 _ (st2 _ (st3 _ (st4 _ (st5 _ (st6 _ ?_)))))
    show Steps p.tables e below (T6.setTop (mkF m 105 #[.val (.ref a1), .val (.ref ca), .val (.ref rr), .val (.int (Int32.ofNat n)), s4', s5] [])) _
    refine XS.aloadN X6.here hx rfl (hb hby d1_105) rfl rfl ?_
    show Steps p.tables e below (T6.setTop (mkF m 106 #[.val (.ref a1), .val (.ref ca), .val (.ref rr), .val (.int (Int32.ofNat n)), s4', s5] [(.ref rr)])) _
    jvm_step X6.here [X6.here.top, hx, (hb hby d1_106), X6.method', Bd.returns, Value.isRef, FieldType.isReference]
    first | (intro acts; rw [hr _ acts rfl rfl rfl]) | rw [hr _ _ rfl rfl rfl]
    exact Steps.refl _
  · show Q1 Z n tv h0 n0 _ T6.heap _
    rw [e6]
    exact ⟨rr, kr, r, G, rfl, N6, K6, Vr6, Va6, VG6⟩
theorem os0_6 {z0 : Value} {s1 : Slot} {s2 : Slot} {s3 : Slot} {s4 : Slot} {s5 : Slot} {s6 : Slot} {s7 : Slot} {v : Int32} (h : One s5) : storeLocals #[.val z0, s1, s2, s3, s4, s5, s6, s7] 5 (.int v) = some #[.val z0, s1, s2, s3, s4, .val (.int v), s6, s7] := by
  rcases h with rfl | ⟨w, rfl, hw⟩
  · rfl
  · cases w <;> first | rfl | (simp [Value.category] at hw)
theorem os0_12 {s0 : Slot} {s1 : Slot} {s2 : Slot} {s3 : Slot} {s4 : Slot} {z5 : Value} {s6 : Slot} {s7 : Slot} {v : Addr} (h : One s6) : storeLocals #[s0, s1, s2, s3, s4, .val z5, s6, s7] 6 (.ref v) = some #[s0, s1, s2, s3, s4, .val z5, .val (.ref v), s7] := by
  rcases h with rfl | ⟨w, rfl, hw⟩
  · rfl
  · cases w <;> first | rfl | (simp [Value.category] at hw)
theorem pd_0_2 : parseMethodDescriptor "(II)I" = some ⟨[.int, .int], some .int⟩ := by decide +kernel
theorem pd_0_0 : parseMethodDescriptor "([I)[[I" = some ⟨[(.array .int)], some (.array (.array .int))⟩ := by decide +kernel
theorem os0_83 {s0 : Slot} {s1 : Slot} {s2 : Slot} {s3 : Slot} {s4 : Slot} {s5 : Slot} {z6 : Value} {s7 : Slot} {v : Addr} (h : One s7) : storeLocals #[s0, s1, s2, s3, s4, s5, .val z6, s7] 7 (.ref v) = some #[s0, s1, s2, s3, s4, s5, .val z6, .val (.ref v)] := by
  rcases h with rfl | ⟨w, rfl, hw⟩
  · rfl
  · cases w <;> first | rfl | (simp [Value.category] at hw)
theorem pd_0_1 : parseMethodDescriptor "([[I[II)Z" = some ⟨[(.array (.array .int)), (.array .int), .int], some .boolean⟩ := by decide +kernel
theorem pn_0 : plainName "com/example/libpiecewise/libpiecewise/TransformationMonoidPreimagesPinLaw" = true := by first | (simp [plainName, overriddenIn]; done) | decide +kernel
theorem ef_0 (m : MethodId) (x0 x1 x2 x3 x4 : Int32) : entryFrame m #[(.int x0), (.int x1), (.int x2), (.int x3), (.int x4)] maxLocals = mkF m 0 #[.val (.int x0), .val (.int x1), .val (.int x2), .val (.int x3), .val (.int x4), .unset, .unset, .unset] [] := by first | (simp [entryFrame, mkF, argsToLocals, Value.category, maxLocals]; done) | rfl
theorem own_len (a : Int32) : ∃ n : Nat, n ≤ 4 ∧ own_rem (a &&& (2147483647 : Int32)) (5 : Int32) = Int32.ofNat n := by
  have h1 := c_mask a 2147483647 31 (by decide) (by decide)
  have h2 := (c_irem (a &&& (2147483647 : Int32)) 5 5 (by decide)).1 (by omega)
  refine ⟨(own_rem (a &&& (2147483647 : Int32)) (5 : Int32)).toInt.toNat, ?_, ?_⟩
  · simp only [own_rem]; omega
  · apply Int32.toInt_inj.mp
    rw [Int32.toInt_ofNat_small (by simp only [own_rem]; omega)]
    simp only [own_rem]; omega
/-- the image drawn from x -/
def own_iv (x : Int32) (n : Nat) : Nat := (own_rem (x &&& (2147483647 : Int32)) (Int32.ofNat n)).toInt.toNat
theorem own_img (x : Int32) (n : Nat) (h0 : 0 < n) (hn : n ≤ 4) : own_iv x n < n ∧ own_rem (x &&& (2147483647 : Int32)) (Int32.ofNat n) = Int32.ofNat (own_iv x n) := by
  have h1 := c_mask x 2147483647 31 (by decide) (by decide)
  have h3 := own_i32 (i := n) (by omega)
  have h2 := (c_iremV (x &&& (2147483647 : Int32)) (Int32.ofNat n)).1 (by omega) (by omega)
  unfold own_iv
  simp only [own_rem] at *
  refine ⟨by omega, ?_⟩
  apply Int32.toInt_inj.mp
  rw [Int32.toInt_ofNat_small (by omega)]
  omega
def own_tv (x0 x1 x2 x3 : Int32) (n j : Nat) : Nat := if j = 0 then own_iv x0 n else if j = 1 then own_iv x1 n else if j = 2 then own_iv x2 n else own_iv x3 n
theorem own_tv_lt (x0 x1 x2 x3 : Int32) (n : Nat) (hn : n ≤ 4) : ∀ j, j < n → own_tv x0 x1 x2 x3 n j < n := by
  intro j hj
  unfold own_tv
  split
  · exact (own_img x0 n (by omega) hn).1
  · split
    · exact (own_img x1 n (by omega) hn).1
    · split
      · exact (own_img x2 n (by omega) hn).1
      · exact (own_img x3 n (by omega) hn).1
set_option maxRecDepth 65536 in
set_option maxHeartbeats 40000000 in
theorem tn0_0_8 {p : Program} {l : Launch} {e : Env} {R : Room} {s : State} {m : MethodId} {args : Array Value} {below : List Frame} {meth : Method} {c : Code} {T0 : State} {locs : List Loc} {cells slots : Nat} {Z : State} {a0 : Array Value} {h0 : Heap} (i0 : Int32) (s1 : Slot) (s2 : Slot) (s3 : Slot) (s4 : Slot) (s5 : Slot) (s6 : Slot) (s7 : Slot)
    (X0 : Stand p l e R s m args below meth c T0 locs cells slots) (hx : p.tables.exec = Jvm.exec) (hZ : Z.Warmed39 s.vm) (hw : ∀ d ∈ tables_1, d.before a0 Z = true) (hby : c.code = code) (hml : c.maxLocals = 8) (hown : s.vm.findClass "com/example/libpiecewise/libpiecewise/TransformationMonoidPreimagesPinLaw" = some m.cls) (e0 : T0.heap = h0) (hs5 : One s5) :
    ∃ (T' : State), Stand p l e R s m args below meth c T' locs cells slots ∧ T'.heap = h0 ∧
      ∀ target, Steps p.tables e below (T'.setTop (mkF m 8 #[.val (.int i0), s1, s2, s3, s4, .val (.int (own_rem (i0 &&& (2147483647 : Int32)) (5 : Int32))), s6, s7] [])) target → Steps p.tables e below (T0.setTop (mkF m 0 #[.val (.int i0), s1, s2, s3, s4, s5, s6, s7] [])) target := by

  refine ⟨T0, X0, e0, fun target kt => ?_⟩
  show Steps p.tables e below (T0.setTop (mkF m 0 #[.val (.int i0), s1, s2, s3, s4, s5, s6, s7] [])) _
  refine XS.iloadN X0.here hx rfl (hb hby at_0) rfl ?_
  show Steps p.tables e below (T0.setTop (mkF m 1 #[.val (.int i0), s1, s2, s3, s4, s5, s6, s7] [(.int i0)])) _
  refine X0.ldcInt hx hown (mvT hZ (hw _ (List.mem_of_getElem? (i := 0) rfl))) (g := (mkF m 1 #[.val (.int i0), s1, s2, s3, s4, s5, s6, s7] [(.int i0)])) rfl (hb hby at_1) _ ?_
  show Steps p.tables e below (T0.setTop (mkF m 3 #[.val (.int i0), s1, s2, s3, s4, s5, s6, s7] [(.int (2147483647 : Int32)), (.int i0)])) _
  refine XS.iand X0.here hx rfl (hb hby at_3) rfl ?_
  show Steps p.tables e below (T0.setTop (mkF m 4 #[.val (.int i0), s1, s2, s3, s4, s5, s6, s7] [(.int (i0 &&& (2147483647 : Int32)))])) _
  refine XS.iconst X0.here hx rfl (hb hby at_4) ?_
  show Steps p.tables e below (T0.setTop (mkF m 5 #[.val (.int i0), s1, s2, s3, s4, s5, s6, s7] [(.int (5 : Int32)), (.int (i0 &&& (2147483647 : Int32)))])) _
  refine own_irem X0.here hx rfl (hb hby at_5) rfl (by decide) ?_
  show Steps p.tables e below (T0.setTop (mkF m 6 #[.val (.int i0), s1, s2, s3, s4, s5, s6, s7] [(.int (own_rem (i0 &&& (2147483647 : Int32)) (5 : Int32)))])) _
  refine XS.istore X0.here hx rfl (hb hby at_6) rfl (l' := #[.val (.int i0), s1, s2, s3, s4, .val (.int (own_rem (i0 &&& (2147483647 : Int32)) (5 : Int32))), s6, s7]) (os0_6 hs5) ?_
  exact kt

set_option maxRecDepth 65536 in
set_option maxHeartbeats 40000000 in
theorem tn0_8_14 {p : Program} {l : Launch} {e : Env} {s : State} {m : MethodId} {args : Array Value} {below : List Frame} {meth : Method} {c : Code} {T0 : State} {locs : List Loc} {Z : State} {a0 : Array Value} {h0 : Heap} (s0 : Slot) (s1 : Slot) (s2 : Slot) (s3 : Slot) (s4 : Slot) (n : Nat) (s6 : Slot) (s7 : Slot) (n0 : Nat)
    (X0 : Stand p l e room_1 s m args below meth c T0 locs 0 0) (hx : p.tables.exec = Jvm.exec) (hZ : Z.Warmed39 s.vm) (hw : ∀ d ∈ tables_1, d.before a0 Z = true) (hby : c.code = code) (hml : c.maxLocals = 8) (hown : s.vm.findClass "com/example/libpiecewise/libpiecewise/TransformationMonoidPreimagesPinLaw" = some m.cls) (e0 : T0.heap = h0) (Z0 : n0 ≤ h0.size) (hn : n ≤ 4) (hs6 : One s6) :
    ∃ (T' : State) (h' : Heap) (b6 : Addr), Stand p l e room_1 s m args below meth c T' locs 1 4 ∧ T'.heap = h' ∧ Ext h0 h' ∧ b6 = h0.size ∧ own_arr Z h' b6 n (fun _ => 0) ∧
      ∀ target, Steps p.tables e below (T'.setTop (mkF m 14 #[s0, s1, s2, s3, s4, .val (.int (Int32.ofNat n)), .val (.ref b6), s7] [])) target → Steps p.tables e below (T0.setTop (mkF m 8 #[s0, s1, s2, s3, s4, .val (.int (Int32.ofNat n)), s6, s7] [])) target := by
  obtain ⟨T6, h6, k6, X6, e6, E6, A6, st6⟩ := newP X0 hx hZ (hw _ (List.mem_of_getElem? (i := 1) rfl)) e0 (g := (mkF m 10 #[s0, s1, s2, s3, s4, .val (.int (Int32.ofNat n)), s6, s7] [(.int (Int32.ofNat n))])) rfl (hb hby at_10) rfl (own_nn (by omega)) (cap := 4) (by rw [own_n32 (by omega)]; exact hn) (by decide) (by decide) (by decide)
  obtain ⟨b6, g6⟩ : ∃ z, z = h0.size := ⟨_, rfl⟩      -- the fresh array's address
  rw [← g6] at A6 st6
  have g_b6 : n0 ≤ b6 := Nat.le_trans Z0 (Nat.le_of_eq g6.symm)
  have sz_b6 : h0.size ≤ b6 := (Nat.le_trans (Keep.refl h0 []).1 (Nat.le_of_eq g6.symm))
  have K6 : Keep h0 h6 [] := (Keep.refl h0 []).ext E6
  refine ⟨T6, _, b6, X6, e6, E6, g6, own_arr.new A6 (by omega), fun target kt => ?_⟩
  show Steps p.tables e below (T0.setTop (mkF m 8 #[s0, s1, s2, s3, s4, .val (.int (Int32.ofNat n)), s6, s7] [])) _
  refine XS.iload X0.here hx rfl (hb hby at_8) rfl ?_
  show Steps p.tables e below (T0.setTop (mkF m 10 #[s0, s1, s2, s3, s4, .val (.int (Int32.ofNat n)), s6, s7] [(.int (Int32.ofNat n))])) _
  refine st6 _ ?_
  show Steps p.tables e below (T6.setTop (mkF m 12 #[s0, s1, s2, s3, s4, .val (.int (Int32.ofNat n)), s6, s7] [(.ref b6)])) _
  refine XS.astore X6.here hx rfl (hb hby at_12) rfl rfl (l' := #[s0, s1, s2, s3, s4, .val (.int (Int32.ofNat n)), .val (.ref b6), s7]) (os0_12 hs6) ?_
  exact kt

set_option maxRecDepth 65536 in
set_option maxHeartbeats 40000000 in
theorem tf_0n {p : Program} {l : Launch} {e : Env} {R : Room} {s : State} {m : MethodId} {args : Array Value} {below : List Frame} {meth : Method} {c : Code} {T0 : State} {locs : List Loc} {cells slots : Nat} {Z : State} {a0 : Array Value} {h0 : Heap} (s0 : Slot) (s1 : Slot) (s2 : Slot) (s3 : Slot) (s4 : Slot) (i5 : Int32) (s6 : Slot) (s7 : Slot)
    (X0 : Stand p l e R s m args below meth c T0 locs cells slots) (hx : p.tables.exec = Jvm.exec) (hZ : Z.Warmed39 s.vm) (hw : ∀ d ∈ tables_1, d.before a0 Z = true) (hby : c.code = code) (hml : c.maxLocals = 8) (hown : s.vm.findClass "com/example/libpiecewise/libpiecewise/TransformationMonoidPreimagesPinLaw" = some m.cls) (e0 : T0.heap = h0) (hc16 : ¬ ((0 : Int32) < i5)) :
    ∃ (T' : State), Stand p l e R s m args below meth c T' locs cells slots ∧ T'.heap = h0 ∧
      ∀ target, Steps p.tables e below (T'.setTop (mkF m 29 #[s0, s1, s2, s3, s4, .val (.int i5), s6, s7] [])) target → Steps p.tables e below (T0.setTop (mkF m 14 #[s0, s1, s2, s3, s4, .val (.int i5), s6, s7] [])) target := by

  refine ⟨T0, X0, e0, fun target kt => ?_⟩
  show Steps p.tables e below (T0.setTop (mkF m 14 #[s0, s1, s2, s3, s4, .val (.int i5), s6, s7] [])) _
  refine XS.iload X0.here hx rfl (hb hby at_14) rfl ?_
  show Steps p.tables e below (T0.setTop (mkF m 16 #[s0, s1, s2, s3, s4, .val (.int i5), s6, s7] [(.int i5)])) _
  refine XS.ifYes X0.here hx rfl (pc0 := 16) (pc' := 29) rfl (hb hby at_16) rfl ((if0 _ _).trans (flt hc16).2.2.2) (by decide) (by decide) ?_
  exact kt

set_option maxRecDepth 65536 in
set_option maxHeartbeats 40000000 in
theorem tf_0y {p : Program} {l : Launch} {e : Env} {s : State} {m : MethodId} {args : Array Value} {below : List Frame} {meth : Method} {c : Code} {T0 : State} {locs : List Loc} {Z : State} {a0 : Array Value} {h0 : Heap} (s0 : Slot) (i1 : Int32) (s2 : Slot) (s3 : Slot) (s4 : Slot) (i5 : Int32) (o6 : Addr) (s7 : Slot) (cl_o6 : Cell) (n0 : Nat)
    (X0 : Stand p l e room_1 s m args below meth c T0 locs 1 4) (hx : p.tables.exec = Jvm.exec) (hZ : Z.Warmed39 s.vm) (hw : ∀ d ∈ tables_1, d.before a0 Z = true) (hby : c.code = code) (hml : c.maxLocals = 8) (hown : s.vm.findClass "com/example/libpiecewise/libpiecewise/TransformationMonoidPreimagesPinLaw" = some m.cls) (e0 : T0.heap = h0) (Z0 : n0 ≤ h0.size) (N0 : Fr n0 locs) (hnz : ¬ (i5 = (0 : Int32))) (Ar_o6 : Arr Z h0 o6 cl_o6 .int) (hin28 : ¬ ((0 : Int32) < 0 ∨ cl_o6.slots.size ≤ ((0 : Int32)).toNatClampNeg)) (g_o6 : n0 ≤ o6) (hc16 : (0 : Int32) < i5) :
    ∃ (T' : State) (h' : Heap) (locs' : List Loc), Stand p l e room_1 s m args below meth c T' locs' 1 4 ∧ T'.heap = h' ∧ Fr n0 locs' ∧ Wr h0 h' o6 ((0 : Int32)).toNatClampNeg (.int (own_rem (i1 &&& (2147483647 : Int32)) i5)) ∧
      ∀ target, Steps p.tables e below (T'.setTop (mkF m 29 #[s0, .val (.int i1), s2, s3, s4, .val (.int i5), .val (.ref o6), s7] [])) target → Steps p.tables e below (T0.setTop (mkF m 14 #[s0, .val (.int i1), s2, s3, s4, .val (.int i5), .val (.ref o6), s7] [])) target := by
  obtain ⟨_, _, ⟨T6, L6, k6, n6⟩, -, X6, ⟨Lc6, hQ6, l6, y6, z6⟩, st6⟩ := Jvm.LawKit.callS X0 hx (y := (⟨"com/example/libpiecewise/libpiecewise/TransformationMonoidPreimagesPinLaw", "img", "(II)I"⟩ : MethodName)) hown (mvT hZ (hw _ (List.mem_of_getElem? (i := 15) rfl))) (mvT hZ (hw _ (List.mem_of_getElem? (i := 16) rfl))) (mvT hZ (hw _ (List.mem_of_getElem? (i := 10) rfl))) (mvT hZ (hw _ (List.mem_of_getElem? (i := 17) rfl))) (by decide) (backOf (W := 2) (rm4 l Z a0 hw [] i1 i5  h0 n0 Z0 hnz) hZ (hw _ (List.mem_of_getElem? (i := 17) rfl)) (hw _ (List.mem_of_getElem? (i := 10) rfl)) (by decide) (by decide)) (g := (mkF m 25 #[s0, .val (.int i1), s2, s3, s4, .val (.int i5), .val (.ref o6), s7] [(.int i5), (.int i1), (.int (0 : Int32)), (.ref o6)])) rfl (by rw [hml]; rfl) (argsL := [(.int i1), (.int i5)]) (rest := [(.int (0 : Int32)), (.ref o6)]) (lenOf pd_0_2 rfl) rfl (by show 2 * 0 + _ ≤ _; exact Nat.le_of_eq rfl) (hb hby at_25) (fun _ _ => ⟨rfl, e0, (by decide : 1 + 0 ≤ _), (by decide : 4 + 0 ≤ _)⟩)
  dsimp only [Pt.U, Pt.locs, Pt.cells, Pt.slots] at X6 l6 y6 z6 st6 hQ6
  subst l6 y6 z6
  obtain ⟨rfl, N6q, e6⟩ := hQ6      -- what it returned, that it wrote nothing old, and the rest of your Q4
  have N6 := Fr.app N0 N6q
  obtain ⟨T7, h7, X7, e7, W7, st7⟩ := stI X6 hx hZ e6 Ar_o6 (j := (0 : Int32)) hin28 (g := (mkF m 28 #[s0, .val (.int i1), s2, s3, s4, .val (.int i5), .val (.ref o6), s7] [(.int (own_rem (i1 &&& (2147483647 : Int32)) i5)), (.int (0 : Int32)), (.ref o6)])) rfl rfl (hb hby at_28)
  have N7 := Fr.snoc X7 N6 g_o6
  refine ⟨T7, _, _, X7, e7, N7, W7, fun target kt => ?_⟩
  show Steps p.tables e below (T0.setTop (mkF m 14 #[s0, .val (.int i1), s2, s3, s4, .val (.int i5), .val (.ref o6), s7] [])) _
  refine XS.iload X0.here hx rfl (hb hby at_14) rfl ?_
  show Steps p.tables e below (T0.setTop (mkF m 16 #[s0, .val (.int i1), s2, s3, s4, .val (.int i5), .val (.ref o6), s7] [(.int i5)])) _
  refine XS.ifNo X0.here hx rfl (hb hby at_16) rfl ((if0 _ _).trans (tlt hc16).2.2.2) ?_
  show Steps p.tables e below (T0.setTop (mkF m 19 #[s0, .val (.int i1), s2, s3, s4, .val (.int i5), .val (.ref o6), s7] [])) _
  refine XS.aload X0.here hx rfl (hb hby at_19) rfl rfl ?_
  show Steps p.tables e below (T0.setTop (mkF m 21 #[s0, .val (.int i1), s2, s3, s4, .val (.int i5), .val (.ref o6), s7] [(.ref o6)])) _
  refine XS.iconst X0.here hx rfl (hb hby at_21) ?_
  show Steps p.tables e below (T0.setTop (mkF m 22 #[s0, .val (.int i1), s2, s3, s4, .val (.int i5), .val (.ref o6), s7] [(.int (0 : Int32)), (.ref o6)])) _
  refine XS.iloadN X0.here hx rfl (hb hby at_22) rfl ?_
  show Steps p.tables e below (T0.setTop (mkF m 23 #[s0, .val (.int i1), s2, s3, s4, .val (.int i5), .val (.ref o6), s7] [(.int i1), (.int (0 : Int32)), (.ref o6)])) _
  refine XS.iload X0.here hx rfl (hb hby at_23) rfl ?_
  show Steps p.tables e below (T0.setTop (mkF m 25 #[s0, .val (.int i1), s2, s3, s4, .val (.int i5), .val (.ref o6), s7] [(.int i5), (.int i1), (.int (0 : Int32)), (.ref o6)])) _
  refine st6 _ ?_
  show Steps p.tables e below (T6.setTop (mkF m 28 #[s0, .val (.int i1), s2, s3, s4, .val (.int i5), .val (.ref o6), s7] [(.int (own_rem (i1 &&& (2147483647 : Int32)) i5)), (.int (0 : Int32)), (.ref o6)])) _
  refine st7 _ ?_
  exact kt

theorem fill_0 {p : Program} {l : Launch} {e : Env} {s : State} {m : MethodId} {args : Array Value} {below : List Frame} {meth : Method} {c : Code} {T0 : State} {locs : List Loc} {Z : State} {a0 : Array Value} {h0 : Heap} (q0 x0 x1 x2 x3 : Int32) (n : Nat) (ta : Addr) (n0 : Nat) (H0 : Heap)
    (X0 : Stand p l e room_1 s m args below meth c T0 locs 1 4) (hx : p.tables.exec = Jvm.exec) (hZ : Z.Warmed39 s.vm) (hw : ∀ d ∈ tables_1, d.before a0 Z = true) (hby : c.code = code) (hml : c.maxLocals = 8) (hown : s.vm.findClass "com/example/libpiecewise/libpiecewise/TransformationMonoidPreimagesPinLaw" = some m.cls) (e0 : T0.heap = h0) (Z0 : n0 ≤ h0.size) (N0 : Fr n0 locs) (hn : n ≤ 4) (gta : n0 ≤ ta) (hta : H0.size ≤ ta) (K0 : Keep H0 h0 []) (V : own_arr Z h0 ta n (fun j => if j < 0 then Int32.ofNat (own_tv x0 x1 x2 x3 n j) else 0)) :
    ∃ (T' : State) (h' : Heap) (locs' : List Loc), Stand p l e room_1 s m args below meth c T' locs' 1 4 ∧ T'.heap = h' ∧ Fr n0 locs' ∧ n0 ≤ h'.size ∧ Keep H0 h' [] ∧ own_arr Z h' ta n (fun j => if j < 1 then Int32.ofNat (own_tv x0 x1 x2 x3 n j) else 0) ∧
      ∀ target, Steps p.tables e below (T'.setTop (mkF m 29 #[.val (.int q0), .val (.int x0), .val (.int x1), .val (.int x2), .val (.int x3), .val (.int (Int32.ofNat n)), .val (.ref ta), .unset] [])) target → Steps p.tables e below (T0.setTop (mkF m 14 #[.val (.int q0), .val (.int x0), .val (.int x1), .val (.int x2), .val (.int x3), .val (.int (Int32.ofNat n)), .val (.ref ta), .unset] [])) target := by
  by_cases h : 0 < n
  · have V' := V
    obtain ⟨cl, Ar, S, H⟩ := V'
    obtain ⟨T', h', L', X', e', N', W', st⟩ := tf_0y (.val (.int q0)) x0 (.val (.int x1)) (.val (.int x2)) (.val (.int x3)) (Int32.ofNat n) ta .unset cl n0 X0 hx hZ hw hby hml hown e0 Z0 N0 (fun q => by have := congrArg Int32.toInt q; rw [own_i32 (by omega)] at this; have z0 : (0 : Int32).toInt = 0 := rfl; omega) Ar (own_in (j := 0) S h (by omega)) gta ((own_lt_iff (i := 0) (by omega) (by omega)).2 h)
    have iv := own_img x0 n (by omega) hn
    refine ⟨T', h', L', X', e', N', by rw [W'.size]; exact Z0, K0.wr W' (Or.inr hta), ?_, st⟩
    refine (own_arr.set (j := 0) Ar S H W' h (by omega)).congr fun j hj => ?_
    by_cases e : j = 0
    · subst e
      rw [if_pos rfl, if_pos (by omega), iv.2]; rfl
    · rw [if_neg e]
      by_cases e2 : j < 0
      · rw [if_pos e2, if_pos (by omega)]
      · rw [if_neg e2, if_neg (by omega)]
  · obtain ⟨T', X', e', st⟩ := tf_0n (.val (.int q0)) (.val (.int x0)) (.val (.int x1)) (.val (.int x2)) (.val (.int x3)) (Int32.ofNat n) (.val (.ref ta)) .unset X0 hx hZ hw hby hml hown e0 (fun q => h ((own_lt_iff (i := 0) (by omega) (by omega)).1 q))
    exact ⟨T', h0, locs, X', e', N0, Z0, K0, V.congr (fun j hj => by rw [if_pos (show j < 0 by omega), if_pos (show j < 1 by omega)]), st⟩
set_option maxRecDepth 65536 in
set_option maxHeartbeats 40000000 in
theorem tf_1n {p : Program} {l : Launch} {e : Env} {R : Room} {s : State} {m : MethodId} {args : Array Value} {below : List Frame} {meth : Method} {c : Code} {T0 : State} {locs : List Loc} {cells slots : Nat} {Z : State} {a0 : Array Value} {h0 : Heap} (s0 : Slot) (s1 : Slot) (s2 : Slot) (s3 : Slot) (s4 : Slot) (i5 : Int32) (s6 : Slot) (s7 : Slot)
    (X0 : Stand p l e R s m args below meth c T0 locs cells slots) (hx : p.tables.exec = Jvm.exec) (hZ : Z.Warmed39 s.vm) (hw : ∀ d ∈ tables_1, d.before a0 Z = true) (hby : c.code = code) (hml : c.maxLocals = 8) (hown : s.vm.findClass "com/example/libpiecewise/libpiecewise/TransformationMonoidPreimagesPinLaw" = some m.cls) (e0 : T0.heap = h0) (hc32 : ¬ ((1 : Int32) < i5)) :
    ∃ (T' : State), Stand p l e R s m args below meth c T' locs cells slots ∧ T'.heap = h0 ∧
      ∀ target, Steps p.tables e below (T'.setTop (mkF m 45 #[s0, s1, s2, s3, s4, .val (.int i5), s6, s7] [])) target → Steps p.tables e below (T0.setTop (mkF m 29 #[s0, s1, s2, s3, s4, .val (.int i5), s6, s7] [])) target := by

  refine ⟨T0, X0, e0, fun target kt => ?_⟩
  show Steps p.tables e below (T0.setTop (mkF m 29 #[s0, s1, s2, s3, s4, .val (.int i5), s6, s7] [])) _
  refine XS.iload X0.here hx rfl (hb hby at_29) rfl ?_
  show Steps p.tables e below (T0.setTop (mkF m 31 #[s0, s1, s2, s3, s4, .val (.int i5), s6, s7] [(.int i5)])) _
  refine XS.iconst X0.here hx rfl (hb hby at_31) ?_
  show Steps p.tables e below (T0.setTop (mkF m 32 #[s0, s1, s2, s3, s4, .val (.int i5), s6, s7] [(.int (1 : Int32)), (.int i5)])) _
  refine XS.icmpYes X0.here hx rfl (pc0 := 32) (pc' := 45) rfl (hb hby at_32) rfl (flt hc32).2.2.2 (by decide) (by decide) ?_
  exact kt

set_option maxRecDepth 65536 in
set_option maxHeartbeats 40000000 in
theorem tf_1y {p : Program} {l : Launch} {e : Env} {s : State} {m : MethodId} {args : Array Value} {below : List Frame} {meth : Method} {c : Code} {T0 : State} {locs : List Loc} {Z : State} {a0 : Array Value} {h0 : Heap} (s0 : Slot) (s1 : Slot) (i2 : Int32) (s3 : Slot) (s4 : Slot) (i5 : Int32) (o6 : Addr) (s7 : Slot) (cl_o6 : Cell) (n0 : Nat)
    (X0 : Stand p l e room_1 s m args below meth c T0 locs 1 4) (hx : p.tables.exec = Jvm.exec) (hZ : Z.Warmed39 s.vm) (hw : ∀ d ∈ tables_1, d.before a0 Z = true) (hby : c.code = code) (hml : c.maxLocals = 8) (hown : s.vm.findClass "com/example/libpiecewise/libpiecewise/TransformationMonoidPreimagesPinLaw" = some m.cls) (e0 : T0.heap = h0) (Z0 : n0 ≤ h0.size) (N0 : Fr n0 locs) (hnz : ¬ (i5 = (0 : Int32))) (Ar_o6 : Arr Z h0 o6 cl_o6 .int) (hin44 : ¬ ((1 : Int32) < 0 ∨ cl_o6.slots.size ≤ ((1 : Int32)).toNatClampNeg)) (g_o6 : n0 ≤ o6) (hc32 : (1 : Int32) < i5) :
    ∃ (T' : State) (h' : Heap) (locs' : List Loc), Stand p l e room_1 s m args below meth c T' locs' 1 4 ∧ T'.heap = h' ∧ Fr n0 locs' ∧ Wr h0 h' o6 ((1 : Int32)).toNatClampNeg (.int (own_rem (i2 &&& (2147483647 : Int32)) i5)) ∧
      ∀ target, Steps p.tables e below (T'.setTop (mkF m 45 #[s0, s1, .val (.int i2), s3, s4, .val (.int i5), .val (.ref o6), s7] [])) target → Steps p.tables e below (T0.setTop (mkF m 29 #[s0, s1, .val (.int i2), s3, s4, .val (.int i5), .val (.ref o6), s7] [])) target := by
  obtain ⟨_, _, ⟨T6, L6, k6, n6⟩, -, X6, ⟨Lc6, hQ6, l6, y6, z6⟩, st6⟩ := Jvm.LawKit.callS X0 hx (y := (⟨"com/example/libpiecewise/libpiecewise/TransformationMonoidPreimagesPinLaw", "img", "(II)I"⟩ : MethodName)) hown (mvT hZ (hw _ (List.mem_of_getElem? (i := 15) rfl))) (mvT hZ (hw _ (List.mem_of_getElem? (i := 16) rfl))) (mvT hZ (hw _ (List.mem_of_getElem? (i := 10) rfl))) (mvT hZ (hw _ (List.mem_of_getElem? (i := 17) rfl))) (by decide) (backOf (W := 2) (rm4 l Z a0 hw [] i2 i5  h0 n0 Z0 hnz) hZ (hw _ (List.mem_of_getElem? (i := 17) rfl)) (hw _ (List.mem_of_getElem? (i := 10) rfl)) (by decide) (by decide)) (g := (mkF m 41 #[s0, s1, .val (.int i2), s3, s4, .val (.int i5), .val (.ref o6), s7] [(.int i5), (.int i2), (.int (1 : Int32)), (.ref o6)])) rfl (by rw [hml]; rfl) (argsL := [(.int i2), (.int i5)]) (rest := [(.int (1 : Int32)), (.ref o6)]) (lenOf pd_0_2 rfl) rfl (by show 2 * 0 + _ ≤ _; exact Nat.le_of_eq rfl) (hb hby at_41) (fun _ _ => ⟨rfl, e0, (by decide : 1 + 0 ≤ _), (by decide : 4 + 0 ≤ _)⟩)
  dsimp only [Pt.U, Pt.locs, Pt.cells, Pt.slots] at X6 l6 y6 z6 st6 hQ6
  subst l6 y6 z6
  obtain ⟨rfl, N6q, e6⟩ := hQ6      -- what it returned, that it wrote nothing old, and the rest of your Q4
  have N6 := Fr.app N0 N6q
  obtain ⟨T7, h7, X7, e7, W7, st7⟩ := stI X6 hx hZ e6 Ar_o6 (j := (1 : Int32)) hin44 (g := (mkF m 44 #[s0, s1, .val (.int i2), s3, s4, .val (.int i5), .val (.ref o6), s7] [(.int (own_rem (i2 &&& (2147483647 : Int32)) i5)), (.int (1 : Int32)), (.ref o6)])) rfl rfl (hb hby at_44)
  have N7 := Fr.snoc X7 N6 g_o6
  refine ⟨T7, _, _, X7, e7, N7, W7, fun target kt => ?_⟩
  show Steps p.tables e below (T0.setTop (mkF m 29 #[s0, s1, .val (.int i2), s3, s4, .val (.int i5), .val (.ref o6), s7] [])) _
  refine XS.iload X0.here hx rfl (hb hby at_29) rfl ?_
  show Steps p.tables e below (T0.setTop (mkF m 31 #[s0, s1, .val (.int i2), s3, s4, .val (.int i5), .val (.ref o6), s7] [(.int i5)])) _
  refine XS.iconst X0.here hx rfl (hb hby at_31) ?_
  show Steps p.tables e below (T0.setTop (mkF m 32 #[s0, s1, .val (.int i2), s3, s4, .val (.int i5), .val (.ref o6), s7] [(.int (1 : Int32)), (.int i5)])) _
  refine XS.icmpNo X0.here hx rfl (hb hby at_32) rfl (tlt hc32).2.2.2 ?_
  show Steps p.tables e below (T0.setTop (mkF m 35 #[s0, s1, .val (.int i2), s3, s4, .val (.int i5), .val (.ref o6), s7] [])) _
  refine XS.aload X0.here hx rfl (hb hby at_35) rfl rfl ?_
  show Steps p.tables e below (T0.setTop (mkF m 37 #[s0, s1, .val (.int i2), s3, s4, .val (.int i5), .val (.ref o6), s7] [(.ref o6)])) _
  refine XS.iconst X0.here hx rfl (hb hby at_37) ?_
  show Steps p.tables e below (T0.setTop (mkF m 38 #[s0, s1, .val (.int i2), s3, s4, .val (.int i5), .val (.ref o6), s7] [(.int (1 : Int32)), (.ref o6)])) _
  refine XS.iloadN X0.here hx rfl (hb hby at_38) rfl ?_
  show Steps p.tables e below (T0.setTop (mkF m 39 #[s0, s1, .val (.int i2), s3, s4, .val (.int i5), .val (.ref o6), s7] [(.int i2), (.int (1 : Int32)), (.ref o6)])) _
  refine XS.iload X0.here hx rfl (hb hby at_39) rfl ?_
  show Steps p.tables e below (T0.setTop (mkF m 41 #[s0, s1, .val (.int i2), s3, s4, .val (.int i5), .val (.ref o6), s7] [(.int i5), (.int i2), (.int (1 : Int32)), (.ref o6)])) _
  refine st6 _ ?_
  show Steps p.tables e below (T6.setTop (mkF m 44 #[s0, s1, .val (.int i2), s3, s4, .val (.int i5), .val (.ref o6), s7] [(.int (own_rem (i2 &&& (2147483647 : Int32)) i5)), (.int (1 : Int32)), (.ref o6)])) _
  refine st7 _ ?_
  exact kt

theorem fill_1 {p : Program} {l : Launch} {e : Env} {s : State} {m : MethodId} {args : Array Value} {below : List Frame} {meth : Method} {c : Code} {T0 : State} {locs : List Loc} {Z : State} {a0 : Array Value} {h0 : Heap} (q0 x0 x1 x2 x3 : Int32) (n : Nat) (ta : Addr) (n0 : Nat) (H0 : Heap)
    (X0 : Stand p l e room_1 s m args below meth c T0 locs 1 4) (hx : p.tables.exec = Jvm.exec) (hZ : Z.Warmed39 s.vm) (hw : ∀ d ∈ tables_1, d.before a0 Z = true) (hby : c.code = code) (hml : c.maxLocals = 8) (hown : s.vm.findClass "com/example/libpiecewise/libpiecewise/TransformationMonoidPreimagesPinLaw" = some m.cls) (e0 : T0.heap = h0) (Z0 : n0 ≤ h0.size) (N0 : Fr n0 locs) (hn : n ≤ 4) (gta : n0 ≤ ta) (hta : H0.size ≤ ta) (K0 : Keep H0 h0 []) (V : own_arr Z h0 ta n (fun j => if j < 1 then Int32.ofNat (own_tv x0 x1 x2 x3 n j) else 0)) :
    ∃ (T' : State) (h' : Heap) (locs' : List Loc), Stand p l e room_1 s m args below meth c T' locs' 1 4 ∧ T'.heap = h' ∧ Fr n0 locs' ∧ n0 ≤ h'.size ∧ Keep H0 h' [] ∧ own_arr Z h' ta n (fun j => if j < 2 then Int32.ofNat (own_tv x0 x1 x2 x3 n j) else 0) ∧
      ∀ target, Steps p.tables e below (T'.setTop (mkF m 45 #[.val (.int q0), .val (.int x0), .val (.int x1), .val (.int x2), .val (.int x3), .val (.int (Int32.ofNat n)), .val (.ref ta), .unset] [])) target → Steps p.tables e below (T0.setTop (mkF m 29 #[.val (.int q0), .val (.int x0), .val (.int x1), .val (.int x2), .val (.int x3), .val (.int (Int32.ofNat n)), .val (.ref ta), .unset] [])) target := by
  by_cases h : 1 < n
  · have V' := V
    obtain ⟨cl, Ar, S, H⟩ := V'
    obtain ⟨T', h', L', X', e', N', W', st⟩ := tf_1y (.val (.int q0)) (.val (.int x0)) x1 (.val (.int x2)) (.val (.int x3)) (Int32.ofNat n) ta .unset cl n0 X0 hx hZ hw hby hml hown e0 Z0 N0 (fun q => by have := congrArg Int32.toInt q; rw [own_i32 (by omega)] at this; have z0 : (0 : Int32).toInt = 0 := rfl; omega) Ar (own_in (j := 1) S h (by omega)) gta ((own_lt_iff (i := 1) (by omega) (by omega)).2 h)
    have iv := own_img x1 n (by omega) hn
    refine ⟨T', h', L', X', e', N', by rw [W'.size]; exact Z0, K0.wr W' (Or.inr hta), ?_, st⟩
    refine (own_arr.set (j := 1) Ar S H W' h (by omega)).congr fun j hj => ?_
    by_cases e : j = 1
    · subst e
      rw [if_pos rfl, if_pos (by omega), iv.2]; rfl
    · rw [if_neg e]
      by_cases e2 : j < 1
      · rw [if_pos e2, if_pos (by omega)]
      · rw [if_neg e2, if_neg (by omega)]
  · obtain ⟨T', X', e', st⟩ := tf_1n (.val (.int q0)) (.val (.int x0)) (.val (.int x1)) (.val (.int x2)) (.val (.int x3)) (Int32.ofNat n) (.val (.ref ta)) .unset X0 hx hZ hw hby hml hown e0 (fun q => h ((own_lt_iff (i := 1) (by omega) (by omega)).1 q))
    exact ⟨T', h0, locs, X', e', N0, Z0, K0, V.congr (fun j hj => by rw [if_pos (show j < 1 by omega), if_pos (show j < 2 by omega)]), st⟩
set_option maxRecDepth 65536 in
set_option maxHeartbeats 40000000 in
theorem tf_2n {p : Program} {l : Launch} {e : Env} {R : Room} {s : State} {m : MethodId} {args : Array Value} {below : List Frame} {meth : Method} {c : Code} {T0 : State} {locs : List Loc} {cells slots : Nat} {Z : State} {a0 : Array Value} {h0 : Heap} (s0 : Slot) (s1 : Slot) (s2 : Slot) (s3 : Slot) (s4 : Slot) (i5 : Int32) (s6 : Slot) (s7 : Slot)
    (X0 : Stand p l e R s m args below meth c T0 locs cells slots) (hx : p.tables.exec = Jvm.exec) (hZ : Z.Warmed39 s.vm) (hw : ∀ d ∈ tables_1, d.before a0 Z = true) (hby : c.code = code) (hml : c.maxLocals = 8) (hown : s.vm.findClass "com/example/libpiecewise/libpiecewise/TransformationMonoidPreimagesPinLaw" = some m.cls) (e0 : T0.heap = h0) (hc48 : ¬ ((2 : Int32) < i5)) :
    ∃ (T' : State), Stand p l e R s m args below meth c T' locs cells slots ∧ T'.heap = h0 ∧
      ∀ target, Steps p.tables e below (T'.setTop (mkF m 61 #[s0, s1, s2, s3, s4, .val (.int i5), s6, s7] [])) target → Steps p.tables e below (T0.setTop (mkF m 45 #[s0, s1, s2, s3, s4, .val (.int i5), s6, s7] [])) target := by

  refine ⟨T0, X0, e0, fun target kt => ?_⟩
  show Steps p.tables e below (T0.setTop (mkF m 45 #[s0, s1, s2, s3, s4, .val (.int i5), s6, s7] [])) _
  refine XS.iload X0.here hx rfl (hb hby at_45) rfl ?_
  show Steps p.tables e below (T0.setTop (mkF m 47 #[s0, s1, s2, s3, s4, .val (.int i5), s6, s7] [(.int i5)])) _
  refine XS.iconst X0.here hx rfl (hb hby at_47) ?_
  show Steps p.tables e below (T0.setTop (mkF m 48 #[s0, s1, s2, s3, s4, .val (.int i5), s6, s7] [(.int (2 : Int32)), (.int i5)])) _
  refine XS.icmpYes X0.here hx rfl (pc0 := 48) (pc' := 61) rfl (hb hby at_48) rfl (flt hc48).2.2.2 (by decide) (by decide) ?_
  exact kt

set_option maxRecDepth 65536 in
set_option maxHeartbeats 40000000 in
theorem tf_2y {p : Program} {l : Launch} {e : Env} {s : State} {m : MethodId} {args : Array Value} {below : List Frame} {meth : Method} {c : Code} {T0 : State} {locs : List Loc} {Z : State} {a0 : Array Value} {h0 : Heap} (s0 : Slot) (s1 : Slot) (s2 : Slot) (i3 : Int32) (s4 : Slot) (i5 : Int32) (o6 : Addr) (s7 : Slot) (cl_o6 : Cell) (n0 : Nat)
    (X0 : Stand p l e room_1 s m args below meth c T0 locs 1 4) (hx : p.tables.exec = Jvm.exec) (hZ : Z.Warmed39 s.vm) (hw : ∀ d ∈ tables_1, d.before a0 Z = true) (hby : c.code = code) (hml : c.maxLocals = 8) (hown : s.vm.findClass "com/example/libpiecewise/libpiecewise/TransformationMonoidPreimagesPinLaw" = some m.cls) (e0 : T0.heap = h0) (Z0 : n0 ≤ h0.size) (N0 : Fr n0 locs) (hnz : ¬ (i5 = (0 : Int32))) (Ar_o6 : Arr Z h0 o6 cl_o6 .int) (hin60 : ¬ ((2 : Int32) < 0 ∨ cl_o6.slots.size ≤ ((2 : Int32)).toNatClampNeg)) (g_o6 : n0 ≤ o6) (hc48 : (2 : Int32) < i5) :
    ∃ (T' : State) (h' : Heap) (locs' : List Loc), Stand p l e room_1 s m args below meth c T' locs' 1 4 ∧ T'.heap = h' ∧ Fr n0 locs' ∧ Wr h0 h' o6 ((2 : Int32)).toNatClampNeg (.int (own_rem (i3 &&& (2147483647 : Int32)) i5)) ∧
      ∀ target, Steps p.tables e below (T'.setTop (mkF m 61 #[s0, s1, s2, .val (.int i3), s4, .val (.int i5), .val (.ref o6), s7] [])) target → Steps p.tables e below (T0.setTop (mkF m 45 #[s0, s1, s2, .val (.int i3), s4, .val (.int i5), .val (.ref o6), s7] [])) target := by
  obtain ⟨_, _, ⟨T6, L6, k6, n6⟩, -, X6, ⟨Lc6, hQ6, l6, y6, z6⟩, st6⟩ := Jvm.LawKit.callS X0 hx (y := (⟨"com/example/libpiecewise/libpiecewise/TransformationMonoidPreimagesPinLaw", "img", "(II)I"⟩ : MethodName)) hown (mvT hZ (hw _ (List.mem_of_getElem? (i := 15) rfl))) (mvT hZ (hw _ (List.mem_of_getElem? (i := 16) rfl))) (mvT hZ (hw _ (List.mem_of_getElem? (i := 10) rfl))) (mvT hZ (hw _ (List.mem_of_getElem? (i := 17) rfl))) (by decide) (backOf (W := 2) (rm4 l Z a0 hw [] i3 i5  h0 n0 Z0 hnz) hZ (hw _ (List.mem_of_getElem? (i := 17) rfl)) (hw _ (List.mem_of_getElem? (i := 10) rfl)) (by decide) (by decide)) (g := (mkF m 57 #[s0, s1, s2, .val (.int i3), s4, .val (.int i5), .val (.ref o6), s7] [(.int i5), (.int i3), (.int (2 : Int32)), (.ref o6)])) rfl (by rw [hml]; rfl) (argsL := [(.int i3), (.int i5)]) (rest := [(.int (2 : Int32)), (.ref o6)]) (lenOf pd_0_2 rfl) rfl (by show 2 * 0 + _ ≤ _; exact Nat.le_of_eq rfl) (hb hby at_57) (fun _ _ => ⟨rfl, e0, (by decide : 1 + 0 ≤ _), (by decide : 4 + 0 ≤ _)⟩)
  dsimp only [Pt.U, Pt.locs, Pt.cells, Pt.slots] at X6 l6 y6 z6 st6 hQ6
  subst l6 y6 z6
  obtain ⟨rfl, N6q, e6⟩ := hQ6      -- what it returned, that it wrote nothing old, and the rest of your Q4
  have N6 := Fr.app N0 N6q
  obtain ⟨T7, h7, X7, e7, W7, st7⟩ := stI X6 hx hZ e6 Ar_o6 (j := (2 : Int32)) hin60 (g := (mkF m 60 #[s0, s1, s2, .val (.int i3), s4, .val (.int i5), .val (.ref o6), s7] [(.int (own_rem (i3 &&& (2147483647 : Int32)) i5)), (.int (2 : Int32)), (.ref o6)])) rfl rfl (hb hby at_60)
  have N7 := Fr.snoc X7 N6 g_o6
  refine ⟨T7, _, _, X7, e7, N7, W7, fun target kt => ?_⟩
  show Steps p.tables e below (T0.setTop (mkF m 45 #[s0, s1, s2, .val (.int i3), s4, .val (.int i5), .val (.ref o6), s7] [])) _
  refine XS.iload X0.here hx rfl (hb hby at_45) rfl ?_
  show Steps p.tables e below (T0.setTop (mkF m 47 #[s0, s1, s2, .val (.int i3), s4, .val (.int i5), .val (.ref o6), s7] [(.int i5)])) _
  refine XS.iconst X0.here hx rfl (hb hby at_47) ?_
  show Steps p.tables e below (T0.setTop (mkF m 48 #[s0, s1, s2, .val (.int i3), s4, .val (.int i5), .val (.ref o6), s7] [(.int (2 : Int32)), (.int i5)])) _
  refine XS.icmpNo X0.here hx rfl (hb hby at_48) rfl (tlt hc48).2.2.2 ?_
  show Steps p.tables e below (T0.setTop (mkF m 51 #[s0, s1, s2, .val (.int i3), s4, .val (.int i5), .val (.ref o6), s7] [])) _
  refine XS.aload X0.here hx rfl (hb hby at_51) rfl rfl ?_
  show Steps p.tables e below (T0.setTop (mkF m 53 #[s0, s1, s2, .val (.int i3), s4, .val (.int i5), .val (.ref o6), s7] [(.ref o6)])) _
  refine XS.iconst X0.here hx rfl (hb hby at_53) ?_
  show Steps p.tables e below (T0.setTop (mkF m 54 #[s0, s1, s2, .val (.int i3), s4, .val (.int i5), .val (.ref o6), s7] [(.int (2 : Int32)), (.ref o6)])) _
  refine XS.iloadN X0.here hx rfl (hb hby at_54) rfl ?_
  show Steps p.tables e below (T0.setTop (mkF m 55 #[s0, s1, s2, .val (.int i3), s4, .val (.int i5), .val (.ref o6), s7] [(.int i3), (.int (2 : Int32)), (.ref o6)])) _
  refine XS.iload X0.here hx rfl (hb hby at_55) rfl ?_
  show Steps p.tables e below (T0.setTop (mkF m 57 #[s0, s1, s2, .val (.int i3), s4, .val (.int i5), .val (.ref o6), s7] [(.int i5), (.int i3), (.int (2 : Int32)), (.ref o6)])) _
  refine st6 _ ?_
  show Steps p.tables e below (T6.setTop (mkF m 60 #[s0, s1, s2, .val (.int i3), s4, .val (.int i5), .val (.ref o6), s7] [(.int (own_rem (i3 &&& (2147483647 : Int32)) i5)), (.int (2 : Int32)), (.ref o6)])) _
  refine st7 _ ?_
  exact kt

theorem fill_2 {p : Program} {l : Launch} {e : Env} {s : State} {m : MethodId} {args : Array Value} {below : List Frame} {meth : Method} {c : Code} {T0 : State} {locs : List Loc} {Z : State} {a0 : Array Value} {h0 : Heap} (q0 x0 x1 x2 x3 : Int32) (n : Nat) (ta : Addr) (n0 : Nat) (H0 : Heap)
    (X0 : Stand p l e room_1 s m args below meth c T0 locs 1 4) (hx : p.tables.exec = Jvm.exec) (hZ : Z.Warmed39 s.vm) (hw : ∀ d ∈ tables_1, d.before a0 Z = true) (hby : c.code = code) (hml : c.maxLocals = 8) (hown : s.vm.findClass "com/example/libpiecewise/libpiecewise/TransformationMonoidPreimagesPinLaw" = some m.cls) (e0 : T0.heap = h0) (Z0 : n0 ≤ h0.size) (N0 : Fr n0 locs) (hn : n ≤ 4) (gta : n0 ≤ ta) (hta : H0.size ≤ ta) (K0 : Keep H0 h0 []) (V : own_arr Z h0 ta n (fun j => if j < 2 then Int32.ofNat (own_tv x0 x1 x2 x3 n j) else 0)) :
    ∃ (T' : State) (h' : Heap) (locs' : List Loc), Stand p l e room_1 s m args below meth c T' locs' 1 4 ∧ T'.heap = h' ∧ Fr n0 locs' ∧ n0 ≤ h'.size ∧ Keep H0 h' [] ∧ own_arr Z h' ta n (fun j => if j < 3 then Int32.ofNat (own_tv x0 x1 x2 x3 n j) else 0) ∧
      ∀ target, Steps p.tables e below (T'.setTop (mkF m 61 #[.val (.int q0), .val (.int x0), .val (.int x1), .val (.int x2), .val (.int x3), .val (.int (Int32.ofNat n)), .val (.ref ta), .unset] [])) target → Steps p.tables e below (T0.setTop (mkF m 45 #[.val (.int q0), .val (.int x0), .val (.int x1), .val (.int x2), .val (.int x3), .val (.int (Int32.ofNat n)), .val (.ref ta), .unset] [])) target := by
  by_cases h : 2 < n
  · have V' := V
    obtain ⟨cl, Ar, S, H⟩ := V'
    obtain ⟨T', h', L', X', e', N', W', st⟩ := tf_2y (.val (.int q0)) (.val (.int x0)) (.val (.int x1)) x2 (.val (.int x3)) (Int32.ofNat n) ta .unset cl n0 X0 hx hZ hw hby hml hown e0 Z0 N0 (fun q => by have := congrArg Int32.toInt q; rw [own_i32 (by omega)] at this; have z0 : (0 : Int32).toInt = 0 := rfl; omega) Ar (own_in (j := 2) S h (by omega)) gta ((own_lt_iff (i := 2) (by omega) (by omega)).2 h)
    have iv := own_img x2 n (by omega) hn
    refine ⟨T', h', L', X', e', N', by rw [W'.size]; exact Z0, K0.wr W' (Or.inr hta), ?_, st⟩
    refine (own_arr.set (j := 2) Ar S H W' h (by omega)).congr fun j hj => ?_
    by_cases e : j = 2
    · subst e
      rw [if_pos rfl, if_pos (by omega), iv.2]; rfl
    · rw [if_neg e]
      by_cases e2 : j < 2
      · rw [if_pos e2, if_pos (by omega)]
      · rw [if_neg e2, if_neg (by omega)]
  · obtain ⟨T', X', e', st⟩ := tf_2n (.val (.int q0)) (.val (.int x0)) (.val (.int x1)) (.val (.int x2)) (.val (.int x3)) (Int32.ofNat n) (.val (.ref ta)) .unset X0 hx hZ hw hby hml hown e0 (fun q => h ((own_lt_iff (i := 2) (by omega) (by omega)).1 q))
    exact ⟨T', h0, locs, X', e', N0, Z0, K0, V.congr (fun j hj => by rw [if_pos (show j < 2 by omega), if_pos (show j < 3 by omega)]), st⟩
set_option maxRecDepth 65536 in
set_option maxHeartbeats 40000000 in
theorem tf_3n {p : Program} {l : Launch} {e : Env} {R : Room} {s : State} {m : MethodId} {args : Array Value} {below : List Frame} {meth : Method} {c : Code} {T0 : State} {locs : List Loc} {cells slots : Nat} {Z : State} {a0 : Array Value} {h0 : Heap} (s0 : Slot) (s1 : Slot) (s2 : Slot) (s3 : Slot) (s4 : Slot) (i5 : Int32) (s6 : Slot) (s7 : Slot)
    (X0 : Stand p l e R s m args below meth c T0 locs cells slots) (hx : p.tables.exec = Jvm.exec) (hZ : Z.Warmed39 s.vm) (hw : ∀ d ∈ tables_1, d.before a0 Z = true) (hby : c.code = code) (hml : c.maxLocals = 8) (hown : s.vm.findClass "com/example/libpiecewise/libpiecewise/TransformationMonoidPreimagesPinLaw" = some m.cls) (e0 : T0.heap = h0) (hc64 : ¬ ((3 : Int32) < i5)) :
    ∃ (T' : State), Stand p l e R s m args below meth c T' locs cells slots ∧ T'.heap = h0 ∧
      ∀ target, Steps p.tables e below (T'.setTop (mkF m 78 #[s0, s1, s2, s3, s4, .val (.int i5), s6, s7] [])) target → Steps p.tables e below (T0.setTop (mkF m 61 #[s0, s1, s2, s3, s4, .val (.int i5), s6, s7] [])) target := by

  refine ⟨T0, X0, e0, fun target kt => ?_⟩
  show Steps p.tables e below (T0.setTop (mkF m 61 #[s0, s1, s2, s3, s4, .val (.int i5), s6, s7] [])) _
  refine XS.iload X0.here hx rfl (hb hby at_61) rfl ?_
  show Steps p.tables e below (T0.setTop (mkF m 63 #[s0, s1, s2, s3, s4, .val (.int i5), s6, s7] [(.int i5)])) _
  refine XS.iconst X0.here hx rfl (hb hby at_63) ?_
  show Steps p.tables e below (T0.setTop (mkF m 64 #[s0, s1, s2, s3, s4, .val (.int i5), s6, s7] [(.int (3 : Int32)), (.int i5)])) _
  refine XS.icmpYes X0.here hx rfl (pc0 := 64) (pc' := 78) rfl (hb hby at_64) rfl (flt hc64).2.2.2 (by decide) (by decide) ?_
  exact kt

set_option maxRecDepth 65536 in
set_option maxHeartbeats 40000000 in
theorem tf_3y {p : Program} {l : Launch} {e : Env} {s : State} {m : MethodId} {args : Array Value} {below : List Frame} {meth : Method} {c : Code} {T0 : State} {locs : List Loc} {Z : State} {a0 : Array Value} {h0 : Heap} (s0 : Slot) (s1 : Slot) (s2 : Slot) (s3 : Slot) (i4 : Int32) (i5 : Int32) (o6 : Addr) (s7 : Slot) (cl_o6 : Cell) (n0 : Nat)
    (X0 : Stand p l e room_1 s m args below meth c T0 locs 1 4) (hx : p.tables.exec = Jvm.exec) (hZ : Z.Warmed39 s.vm) (hw : ∀ d ∈ tables_1, d.before a0 Z = true) (hby : c.code = code) (hml : c.maxLocals = 8) (hown : s.vm.findClass "com/example/libpiecewise/libpiecewise/TransformationMonoidPreimagesPinLaw" = some m.cls) (e0 : T0.heap = h0) (Z0 : n0 ≤ h0.size) (N0 : Fr n0 locs) (hnz : ¬ (i5 = (0 : Int32))) (Ar_o6 : Arr Z h0 o6 cl_o6 .int) (hin77 : ¬ ((3 : Int32) < 0 ∨ cl_o6.slots.size ≤ ((3 : Int32)).toNatClampNeg)) (g_o6 : n0 ≤ o6) (hc64 : (3 : Int32) < i5) :
    ∃ (T' : State) (h' : Heap) (locs' : List Loc), Stand p l e room_1 s m args below meth c T' locs' 1 4 ∧ T'.heap = h' ∧ Fr n0 locs' ∧ Wr h0 h' o6 ((3 : Int32)).toNatClampNeg (.int (own_rem (i4 &&& (2147483647 : Int32)) i5)) ∧
      ∀ target, Steps p.tables e below (T'.setTop (mkF m 78 #[s0, s1, s2, s3, .val (.int i4), .val (.int i5), .val (.ref o6), s7] [])) target → Steps p.tables e below (T0.setTop (mkF m 61 #[s0, s1, s2, s3, .val (.int i4), .val (.int i5), .val (.ref o6), s7] [])) target := by
  obtain ⟨_, _, ⟨T6, L6, k6, n6⟩, -, X6, ⟨Lc6, hQ6, l6, y6, z6⟩, st6⟩ := Jvm.LawKit.callS X0 hx (y := (⟨"com/example/libpiecewise/libpiecewise/TransformationMonoidPreimagesPinLaw", "img", "(II)I"⟩ : MethodName)) hown (mvT hZ (hw _ (List.mem_of_getElem? (i := 15) rfl))) (mvT hZ (hw _ (List.mem_of_getElem? (i := 16) rfl))) (mvT hZ (hw _ (List.mem_of_getElem? (i := 10) rfl))) (mvT hZ (hw _ (List.mem_of_getElem? (i := 17) rfl))) (by decide) (backOf (W := 2) (rm4 l Z a0 hw [] i4 i5  h0 n0 Z0 hnz) hZ (hw _ (List.mem_of_getElem? (i := 17) rfl)) (hw _ (List.mem_of_getElem? (i := 10) rfl)) (by decide) (by decide)) (g := (mkF m 74 #[s0, s1, s2, s3, .val (.int i4), .val (.int i5), .val (.ref o6), s7] [(.int i5), (.int i4), (.int (3 : Int32)), (.ref o6)])) rfl (by rw [hml]; rfl) (argsL := [(.int i4), (.int i5)]) (rest := [(.int (3 : Int32)), (.ref o6)]) (lenOf pd_0_2 rfl) rfl (by show 2 * 0 + _ ≤ _; exact Nat.le_of_eq rfl) (hb hby at_74) (fun _ _ => ⟨rfl, e0, (by decide : 1 + 0 ≤ _), (by decide : 4 + 0 ≤ _)⟩)
  dsimp only [Pt.U, Pt.locs, Pt.cells, Pt.slots] at X6 l6 y6 z6 st6 hQ6
  subst l6 y6 z6
  obtain ⟨rfl, N6q, e6⟩ := hQ6      -- what it returned, that it wrote nothing old, and the rest of your Q4
  have N6 := Fr.app N0 N6q
  obtain ⟨T7, h7, X7, e7, W7, st7⟩ := stI X6 hx hZ e6 Ar_o6 (j := (3 : Int32)) hin77 (g := (mkF m 77 #[s0, s1, s2, s3, .val (.int i4), .val (.int i5), .val (.ref o6), s7] [(.int (own_rem (i4 &&& (2147483647 : Int32)) i5)), (.int (3 : Int32)), (.ref o6)])) rfl rfl (hb hby at_77)
  have N7 := Fr.snoc X7 N6 g_o6
  refine ⟨T7, _, _, X7, e7, N7, W7, fun target kt => ?_⟩
  show Steps p.tables e below (T0.setTop (mkF m 61 #[s0, s1, s2, s3, .val (.int i4), .val (.int i5), .val (.ref o6), s7] [])) _
  refine XS.iload X0.here hx rfl (hb hby at_61) rfl ?_
  show Steps p.tables e below (T0.setTop (mkF m 63 #[s0, s1, s2, s3, .val (.int i4), .val (.int i5), .val (.ref o6), s7] [(.int i5)])) _
  refine XS.iconst X0.here hx rfl (hb hby at_63) ?_
  show Steps p.tables e below (T0.setTop (mkF m 64 #[s0, s1, s2, s3, .val (.int i4), .val (.int i5), .val (.ref o6), s7] [(.int (3 : Int32)), (.int i5)])) _
  refine XS.icmpNo X0.here hx rfl (hb hby at_64) rfl (tlt hc64).2.2.2 ?_
  show Steps p.tables e below (T0.setTop (mkF m 67 #[s0, s1, s2, s3, .val (.int i4), .val (.int i5), .val (.ref o6), s7] [])) _
  refine XS.aload X0.here hx rfl (hb hby at_67) rfl rfl ?_
  show Steps p.tables e below (T0.setTop (mkF m 69 #[s0, s1, s2, s3, .val (.int i4), .val (.int i5), .val (.ref o6), s7] [(.ref o6)])) _
  refine XS.iconst X0.here hx rfl (hb hby at_69) ?_
  show Steps p.tables e below (T0.setTop (mkF m 70 #[s0, s1, s2, s3, .val (.int i4), .val (.int i5), .val (.ref o6), s7] [(.int (3 : Int32)), (.ref o6)])) _
  refine XS.iload X0.here hx rfl (hb hby at_70) rfl ?_
  show Steps p.tables e below (T0.setTop (mkF m 72 #[s0, s1, s2, s3, .val (.int i4), .val (.int i5), .val (.ref o6), s7] [(.int i4), (.int (3 : Int32)), (.ref o6)])) _
  refine XS.iload X0.here hx rfl (hb hby at_72) rfl ?_
  show Steps p.tables e below (T0.setTop (mkF m 74 #[s0, s1, s2, s3, .val (.int i4), .val (.int i5), .val (.ref o6), s7] [(.int i5), (.int i4), (.int (3 : Int32)), (.ref o6)])) _
  refine st6 _ ?_
  show Steps p.tables e below (T6.setTop (mkF m 77 #[s0, s1, s2, s3, .val (.int i4), .val (.int i5), .val (.ref o6), s7] [(.int (own_rem (i4 &&& (2147483647 : Int32)) i5)), (.int (3 : Int32)), (.ref o6)])) _
  refine st7 _ ?_
  exact kt

theorem fill_3 {p : Program} {l : Launch} {e : Env} {s : State} {m : MethodId} {args : Array Value} {below : List Frame} {meth : Method} {c : Code} {T0 : State} {locs : List Loc} {Z : State} {a0 : Array Value} {h0 : Heap} (q0 x0 x1 x2 x3 : Int32) (n : Nat) (ta : Addr) (n0 : Nat) (H0 : Heap)
    (X0 : Stand p l e room_1 s m args below meth c T0 locs 1 4) (hx : p.tables.exec = Jvm.exec) (hZ : Z.Warmed39 s.vm) (hw : ∀ d ∈ tables_1, d.before a0 Z = true) (hby : c.code = code) (hml : c.maxLocals = 8) (hown : s.vm.findClass "com/example/libpiecewise/libpiecewise/TransformationMonoidPreimagesPinLaw" = some m.cls) (e0 : T0.heap = h0) (Z0 : n0 ≤ h0.size) (N0 : Fr n0 locs) (hn : n ≤ 4) (gta : n0 ≤ ta) (hta : H0.size ≤ ta) (K0 : Keep H0 h0 []) (V : own_arr Z h0 ta n (fun j => if j < 3 then Int32.ofNat (own_tv x0 x1 x2 x3 n j) else 0)) :
    ∃ (T' : State) (h' : Heap) (locs' : List Loc), Stand p l e room_1 s m args below meth c T' locs' 1 4 ∧ T'.heap = h' ∧ Fr n0 locs' ∧ n0 ≤ h'.size ∧ Keep H0 h' [] ∧ own_arr Z h' ta n (fun j => if j < 4 then Int32.ofNat (own_tv x0 x1 x2 x3 n j) else 0) ∧
      ∀ target, Steps p.tables e below (T'.setTop (mkF m 78 #[.val (.int q0), .val (.int x0), .val (.int x1), .val (.int x2), .val (.int x3), .val (.int (Int32.ofNat n)), .val (.ref ta), .unset] [])) target → Steps p.tables e below (T0.setTop (mkF m 61 #[.val (.int q0), .val (.int x0), .val (.int x1), .val (.int x2), .val (.int x3), .val (.int (Int32.ofNat n)), .val (.ref ta), .unset] [])) target := by
  by_cases h : 3 < n
  · have V' := V
    obtain ⟨cl, Ar, S, H⟩ := V'
    obtain ⟨T', h', L', X', e', N', W', st⟩ := tf_3y (.val (.int q0)) (.val (.int x0)) (.val (.int x1)) (.val (.int x2)) x3 (Int32.ofNat n) ta .unset cl n0 X0 hx hZ hw hby hml hown e0 Z0 N0 (fun q => by have := congrArg Int32.toInt q; rw [own_i32 (by omega)] at this; have z0 : (0 : Int32).toInt = 0 := rfl; omega) Ar (own_in (j := 3) S h (by omega)) gta ((own_lt_iff (i := 3) (by omega) (by omega)).2 h)
    have iv := own_img x3 n (by omega) hn
    refine ⟨T', h', L', X', e', N', by rw [W'.size]; exact Z0, K0.wr W' (Or.inr hta), ?_, st⟩
    refine (own_arr.set (j := 3) Ar S H W' h (by omega)).congr fun j hj => ?_
    by_cases e : j = 3
    · subst e
      rw [if_pos rfl, if_pos (by omega), iv.2]; rfl
    · rw [if_neg e]
      by_cases e2 : j < 3
      · rw [if_pos e2, if_pos (by omega)]
      · rw [if_neg e2, if_neg (by omega)]
  · obtain ⟨T', X', e', st⟩ := tf_3n (.val (.int q0)) (.val (.int x0)) (.val (.int x1)) (.val (.int x2)) (.val (.int x3)) (Int32.ofNat n) (.val (.ref ta)) .unset X0 hx hZ hw hby hml hown e0 (fun q => h ((own_lt_iff (i := 3) (by omega) (by omega)).1 q))
    exact ⟨T', h0, locs, X', e', N0, Z0, K0, V.congr (fun j hj => by rw [if_pos (show j < 3 by omega), if_pos (show j < 4 by omega)]), st⟩
set_option maxRecDepth 65536 in
set_option maxHeartbeats 40000000 in
theorem tn0_78_85 {p : Program} {l : Launch} {e : Env} {s : State} {m : MethodId} {args : Array Value} {below : List Frame} {meth : Method} {c : Code} {T0 : State} {locs : List Loc} {Z : State} {a0 : Array Value} {h0 : Heap} (s0 : Slot) (s1 : Slot) (s2 : Slot) (s3 : Slot) (s4 : Slot) (s5 : Slot) (o6 : Addr) (s7 : Slot) (n : Nat) (tv : Nat → Nat) (n0 : Nat)
    (X0 : Stand p l e room_1 s m args below meth c T0 locs 1 4) (hx : p.tables.exec = Jvm.exec) (hZ : Z.Warmed39 s.vm) (hw : ∀ d ∈ tables_1, d.before a0 Z = true) (hby : c.code = code) (hml : c.maxLocals = 8) (hown : s.vm.findClass "com/example/libpiecewise/libpiecewise/TransformationMonoidPreimagesPinLaw" = some m.cls) (e0 : T0.heap = h0) (Z0 : n0 ≤ h0.size) (N0 : Fr n0 locs) (hn : n ≤ 4) (htv : ∀ j, j < n → tv j < n) (V : own_arr Z h0 o6 n (own_ft tv)) (hs7 : One s7) :
    ∃ (T' : State) (h' : Heap) (locs' : List Loc) (rr : Addr) (kr : ClassId) (r : Nat → Addr) (G : Nat → Nat → Int32), Stand p l e room_1 s m args below meth c T' locs' 7 28 ∧ T'.heap = h' ∧ Fr n0 locs' ∧ Keep h0 h' [] ∧ own_res Z h' rr kr n tv r G ∧
      ∀ target, Steps p.tables e below (T'.setTop (mkF m 85 #[s0, s1, s2, s3, s4, s5, .val (.ref o6), .val (.ref rr)] [])) target → Steps p.tables e below (T0.setTop (mkF m 78 #[s0, s1, s2, s3, s4, s5, .val (.ref o6), s7] [])) target := by
  obtain ⟨_, _, ⟨T6, L6, k6, n6⟩, -, X6, ⟨Lc6, hQ6, l6, y6, z6⟩, st6⟩ := Jvm.LawKit.callS X0 hx (y := (⟨"com/example/libpiecewise/libpiecewise/TransformationMonoid", "preimages", "([I)[[I"⟩ : MethodName)) hown (mvT hZ (hw _ (List.mem_of_getElem? (i := 2) rfl))) (mvT hZ (hw _ (List.mem_of_getElem? (i := 3) rfl))) (mvT hZ (hw _ (List.mem_of_getElem? (i := 4) rfl))) (mvT hZ (hw _ (List.mem_of_getElem? (i := 5) rfl))) (by decide) (backOf (W := 0) (rm1 l Z a0 hw [] o6 n tv h0 n0 Z0 hn htv V) hZ (hw _ (List.mem_of_getElem? (i := 5) rfl)) (hw _ (List.mem_of_getElem? (i := 4) rfl)) (by decide) (by decide)) (g := (mkF m 80 #[s0, s1, s2, s3, s4, s5, .val (.ref o6), s7] [(.ref o6)])) rfl (by rw [hml]; rfl) (argsL := [(.ref o6)]) (rest := []) (lenOf pd_0_0 rfl) rfl (by show 2 * 0 + _ ≤ _; exact Nat.le_of_eq rfl) (hb hby at_80) (fun _ _ => ⟨rfl, e0, (by decide : 1 + 6 ≤ _), (by decide : 4 + 24 ≤ _)⟩)
  dsimp only [Pt.U, Pt.locs, Pt.cells, Pt.slots] at X6 l6 y6 z6 st6 hQ6
  subst l6 y6 z6
  obtain ⟨rr, kr, r, G, rfl, N6q, K6, RS6⟩ := hQ6      -- what it returned, that it wrote nothing old, and the rest of your Q1
  have N6 := Fr.app N0 N6q
  refine ⟨T6, _, _, rr, kr, r, G, X6, rfl, N6, K6, RS6, fun target kt => ?_⟩
  show Steps p.tables e below (T0.setTop (mkF m 78 #[s0, s1, s2, s3, s4, s5, .val (.ref o6), s7] [])) _
  refine XS.aload X0.here hx rfl (hb hby at_78) rfl rfl ?_
  show Steps p.tables e below (T0.setTop (mkF m 80 #[s0, s1, s2, s3, s4, s5, .val (.ref o6), s7] [(.ref o6)])) _
  refine st6 _ ?_
  show Steps p.tables e below (T6.setTop (mkF m 83 #[s0, s1, s2, s3, s4, s5, .val (.ref o6), s7] [(.ref rr)])) _
  refine XS.astore X6.here hx rfl (hb hby at_83) rfl rfl (l' := #[s0, s1, s2, s3, s4, s5, .val (.ref o6), .val (.ref rr)]) (os0_83 hs7) ?_
  exact kt

set_option maxRecDepth 65536 in
set_option maxHeartbeats 40000000 in
theorem tn0_85_100 {p : Program} {l : Launch} {e : Env} {R : Room} {s : State} {m : MethodId} {args : Array Value} {below : List Frame} {meth : Method} {c : Code} {T0 : State} {locs : List Loc} {cells slots : Nat} {Z : State} {a0 : Array Value} {h0 : Heap} (s0 : Slot) (s1 : Slot) (s2 : Slot) (s3 : Slot) (s4 : Slot) (i5 : Int32) (s6 : Slot) (o7 : Addr) (cl_o7 : Cell) (z_o7 : Int32)
    (X0 : Stand p l e R s m args below meth c T0 locs cells slots) (hx : p.tables.exec = Jvm.exec) (hZ : Z.Warmed39 s.vm) (hw : ∀ d ∈ tables_1, d.before a0 Z = true) (hby : c.code = code) (hml : c.maxLocals = 8) (hown : s.vm.findClass "com/example/libpiecewise/libpiecewise/TransformationMonoidPreimagesPinLaw" = some m.cls) (e0 : T0.heap = h0) (Ar_o7 : Arr Z h0 o7 cl_o7 (.array .int)) (S_o7 : cl_o7.slots.size = z_o7.toNatClampNeg) (N_o7 : ¬ z_o7 < 0) (hc95 : z_o7 = i5) :
    ∃ (T' : State), Stand p l e R s m args below meth c T' locs cells slots ∧ T'.heap = h0 ∧
      ∀ target, Steps p.tables e below (T'.setTop (mkF m 100 #[s0, s1, s2, s3, s4, .val (.int i5), s6, .val (.ref o7)] [])) target → Steps p.tables e below (T0.setTop (mkF m 85 #[s0, s1, s2, s3, s4, .val (.int i5), s6, .val (.ref o7)] [])) target := by

  refine ⟨T0, X0, e0, fun target kt => ?_⟩
  show Steps p.tables e below (T0.setTop (mkF m 85 #[s0, s1, s2, s3, s4, .val (.int i5), s6, .val (.ref o7)] [])) _
  refine XS.aload X0.here hx rfl (hb hby at_85) rfl rfl ?_
  show Steps p.tables e below (T0.setTop (mkF m 87 #[s0, s1, s2, s3, s4, .val (.int i5), s6, .val (.ref o7)] [(.ref o7)])) _
  refine XS.ifnullNo X0.here hx rfl (hb hby at_87) rfl ?_
  show Steps p.tables e below (T0.setTop (mkF m 90 #[s0, s1, s2, s3, s4, .val (.int i5), s6, .val (.ref o7)] [])) _
  refine XS.aload X0.here hx rfl (hb hby at_90) rfl rfl ?_
  show Steps p.tables e below (T0.setTop (mkF m 92 #[s0, s1, s2, s3, s4, .val (.int i5), s6, .val (.ref o7)] [(.ref o7)])) _
  refine X0.arraylength hx (by rw [e0]; exact Ar_o7.1) (State.isArrayOf_alike hZ.alike Ar_o7.2.1) (g := (mkF m 92 #[s0, s1, s2, s3, s4, .val (.int i5), s6, .val (.ref o7)] [(.ref o7)])) rfl rfl (hb hby at_92) _ ?_
  rw [len_of S_o7 N_o7]
  show Steps p.tables e below (T0.setTop (mkF m 93 #[s0, s1, s2, s3, s4, .val (.int i5), s6, .val (.ref o7)] [(.int z_o7)])) _
  refine XS.iload X0.here hx rfl (hb hby at_93) rfl ?_
  show Steps p.tables e below (T0.setTop (mkF m 95 #[s0, s1, s2, s3, s4, .val (.int i5), s6, .val (.ref o7)] [(.int i5), (.int z_o7)])) _
  refine XS.icmpYes X0.here hx rfl (pc0 := 95) (pc' := 100) rfl (hb hby at_95) rfl (teq hc95).1 (by decide) (by decide) ?_
  exact kt

set_option maxRecDepth 65536 in
set_option maxHeartbeats 40000000 in
theorem tn0_100_146 {p : Program} {l : Launch} {e : Env} {s : State} {m : MethodId} {args : Array Value} {below : List Frame} {meth : Method} {c : Code} {T0 : State} {locs : List Loc} {Z : State} {a0 : Array Value} {h0 : Heap} (s0 : Slot) (s1 : Slot) (s2 : Slot) (s3 : Slot) (s4 : Slot) (s5 : Slot) (o6 : Addr) (rr : Addr) (kr : ClassId) (n : Nat) (tv : Nat → Nat) (r : Nat → Addr) (G : Nat → Nat → Int32) (n0 : Nat)
    (X0 : Stand p l e room_1 s m args below meth c T0 locs 7 28) (hx : p.tables.exec = Jvm.exec) (hZ : Z.Warmed39 s.vm) (hw : ∀ d ∈ tables_1, d.before a0 Z = true) (hby : c.code = code) (hml : c.maxLocals = 8) (hown : s.vm.findClass "com/example/libpiecewise/libpiecewise/TransformationMonoidPreimagesPinLaw" = some m.cls) (e0 : T0.heap = h0) (Z0 : n0 ≤ h0.size) (N0 : Fr n0 locs) (hn : n ≤ 4) (htv : ∀ j, j < n → tv j < n) (V : own_arr Z h0 o6 n (own_ft tv)) (RS : own_res Z h0 rr kr n tv r G) :
    ∃ (T' : State) (locs' : List Loc), Stand p l e room_1 s m args below meth c T' locs' 7 28 ∧ T'.heap = h0 ∧ Fr n0 locs' ∧
      ∀ target, Steps p.tables e below (T'.setTop (mkF m 146 #[s0, s1, s2, s3, s4, s5, .val (.ref o6), .val (.ref rr)] [])) target → Steps p.tables e below (T0.setTop (mkF m 100 #[s0, s1, s2, s3, s4, s5, .val (.ref o6), .val (.ref rr)] [])) target := by
  obtain ⟨_, _, ⟨T6, L6, k6, n6⟩, -, X6, ⟨Lc6, hQ6, l6, y6, z6⟩, st6⟩ := Jvm.LawKit.callS X0 hx (y := (⟨"com/example/libpiecewise/libpiecewise/TransformationMonoidPreimagesPinLaw", "rowOk", "([[I[II)Z"⟩ : MethodName)) hown (mvT hZ (hw _ (List.mem_of_getElem? (i := 8) rfl))) (mvT hZ (hw _ (List.mem_of_getElem? (i := 9) rfl))) (mvT hZ (hw _ (List.mem_of_getElem? (i := 10) rfl))) (mvT hZ (hw _ (List.mem_of_getElem? (i := 11) rfl))) (by decide) (backOf (W := 0) (rm2 l Z a0 hw [] o6 0 rr kr n tv r G  h0 n0 Z0 hn (by decide) htv V RS) hZ (hw _ (List.mem_of_getElem? (i := 11) rfl)) (hw _ (List.mem_of_getElem? (i := 10) rfl)) (by decide) (by decide)) (g := (mkF m 105 #[s0, s1, s2, s3, s4, s5, .val (.ref o6), .val (.ref rr)] [(.int (0 : Int32)), (.ref o6), (.ref rr)])) rfl (by rw [hml]; rfl) (argsL := [(.ref rr), (.ref o6), (.int (0 : Int32))]) (rest := []) (lenOf pd_0_1 rfl) rfl (by show 2 * 0 + _ ≤ _; exact Nat.le_of_eq rfl) (hb hby at_105) (fun _ _ => ⟨rfl, e0, (by decide : 7 + 0 ≤ _), (by decide : 28 + 0 ≤ _)⟩)
  dsimp only [Pt.U, Pt.locs, Pt.cells, Pt.slots] at X6 l6 y6 z6 st6 hQ6
  subst l6 y6 z6
  obtain ⟨rfl, N6q, e6⟩ := hQ6      -- what it returned, that it wrote nothing old, and the rest of your Q2
  have N6 := Fr.app N0 N6q
  have q6 : T6.heap = h0 := e6
  obtain ⟨_, _, ⟨T7, L7, k7, n7⟩, -, X7, ⟨Lc7, hQ7, l7, y7, z7⟩, st7⟩ := Jvm.LawKit.callS X6 hx (y := (⟨"com/example/libpiecewise/libpiecewise/TransformationMonoidPreimagesPinLaw", "rowOk", "([[I[II)Z"⟩ : MethodName)) hown (mvT hZ (hw _ (List.mem_of_getElem? (i := 8) rfl))) (mvT hZ (hw _ (List.mem_of_getElem? (i := 9) rfl))) (mvT hZ (hw _ (List.mem_of_getElem? (i := 10) rfl))) (mvT hZ (hw _ (List.mem_of_getElem? (i := 11) rfl))) (by decide) (backOf (W := 0) (rm2 l Z a0 hw [] o6 1 rr kr n tv r G  T6.heap n0 (by rw [q6]; exact Z0) hn (by decide) htv (by rw [q6]; exact V) (by rw [q6]; exact RS)) hZ (hw _ (List.mem_of_getElem? (i := 11) rfl)) (hw _ (List.mem_of_getElem? (i := 10) rfl)) (by decide) (by decide)) (g := (mkF m 116 #[s0, s1, s2, s3, s4, s5, .val (.ref o6), .val (.ref rr)] [(.int (1 : Int32)), (.ref o6), (.ref rr)])) rfl (by rw [hml]; rfl) (argsL := [(.ref rr), (.ref o6), (.int (1 : Int32))]) (rest := []) (lenOf pd_0_1 rfl) rfl (by show 2 * 0 + _ ≤ _; exact Nat.le_of_eq rfl) (hb hby at_116) (fun _ _ => ⟨rfl, rfl, (by decide : 7 + 0 ≤ _), (by decide : 28 + 0 ≤ _)⟩)
  dsimp only [Pt.U, Pt.locs, Pt.cells, Pt.slots] at X7 l7 y7 z7 st7 hQ7
  subst l7 y7 z7
  obtain ⟨rfl, N7q, e7⟩ := hQ7      -- what it returned, that it wrote nothing old, and the rest of your Q2
  have N7 := Fr.app N6 N7q
  have q7 : T7.heap = h0 := e7.trans q6
  obtain ⟨_, _, ⟨T8, L8, k8, n8⟩, -, X8, ⟨Lc8, hQ8, l8, y8, z8⟩, st8⟩ := Jvm.LawKit.callS X7 hx (y := (⟨"com/example/libpiecewise/libpiecewise/TransformationMonoidPreimagesPinLaw", "rowOk", "([[I[II)Z"⟩ : MethodName)) hown (mvT hZ (hw _ (List.mem_of_getElem? (i := 8) rfl))) (mvT hZ (hw _ (List.mem_of_getElem? (i := 9) rfl))) (mvT hZ (hw _ (List.mem_of_getElem? (i := 10) rfl))) (mvT hZ (hw _ (List.mem_of_getElem? (i := 11) rfl))) (by decide) (backOf (W := 0) (rm2 l Z a0 hw [] o6 2 rr kr n tv r G  T7.heap n0 (by rw [q7]; exact Z0) hn (by decide) htv (by rw [q7]; exact V) (by rw [q7]; exact RS)) hZ (hw _ (List.mem_of_getElem? (i := 11) rfl)) (hw _ (List.mem_of_getElem? (i := 10) rfl)) (by decide) (by decide)) (g := (mkF m 127 #[s0, s1, s2, s3, s4, s5, .val (.ref o6), .val (.ref rr)] [(.int (2 : Int32)), (.ref o6), (.ref rr)])) rfl (by rw [hml]; rfl) (argsL := [(.ref rr), (.ref o6), (.int (2 : Int32))]) (rest := []) (lenOf pd_0_1 rfl) rfl (by show 2 * 0 + _ ≤ _; exact Nat.le_of_eq rfl) (hb hby at_127) (fun _ _ => ⟨rfl, rfl, (by decide : 7 + 0 ≤ _), (by decide : 28 + 0 ≤ _)⟩)
  dsimp only [Pt.U, Pt.locs, Pt.cells, Pt.slots] at X8 l8 y8 z8 st8 hQ8
  subst l8 y8 z8
  obtain ⟨rfl, N8q, e8⟩ := hQ8      -- what it returned, that it wrote nothing old, and the rest of your Q2
  have N8 := Fr.app N7 N8q
  have q8 : T8.heap = h0 := e8.trans q7
  obtain ⟨_, _, ⟨T9, L9, k9, n9⟩, -, X9, ⟨Lc9, hQ9, l9, y9, z9⟩, st9⟩ := Jvm.LawKit.callS X8 hx (y := (⟨"com/example/libpiecewise/libpiecewise/TransformationMonoidPreimagesPinLaw", "rowOk", "([[I[II)Z"⟩ : MethodName)) hown (mvT hZ (hw _ (List.mem_of_getElem? (i := 8) rfl))) (mvT hZ (hw _ (List.mem_of_getElem? (i := 9) rfl))) (mvT hZ (hw _ (List.mem_of_getElem? (i := 10) rfl))) (mvT hZ (hw _ (List.mem_of_getElem? (i := 11) rfl))) (by decide) (backOf (W := 0) (rm2 l Z a0 hw [] o6 3 rr kr n tv r G  T8.heap n0 (by rw [q8]; exact Z0) hn (by decide) htv (by rw [q8]; exact V) (by rw [q8]; exact RS)) hZ (hw _ (List.mem_of_getElem? (i := 11) rfl)) (hw _ (List.mem_of_getElem? (i := 10) rfl)) (by decide) (by decide)) (g := (mkF m 138 #[s0, s1, s2, s3, s4, s5, .val (.ref o6), .val (.ref rr)] [(.int (3 : Int32)), (.ref o6), (.ref rr)])) rfl (by rw [hml]; rfl) (argsL := [(.ref rr), (.ref o6), (.int (3 : Int32))]) (rest := []) (lenOf pd_0_1 rfl) rfl (by show 2 * 0 + _ ≤ _; exact Nat.le_of_eq rfl) (hb hby at_138) (fun _ _ => ⟨rfl, rfl, (by decide : 7 + 0 ≤ _), (by decide : 28 + 0 ≤ _)⟩)
  dsimp only [Pt.U, Pt.locs, Pt.cells, Pt.slots] at X9 l9 y9 z9 st9 hQ9
  subst l9 y9 z9
  obtain ⟨rfl, N9q, e9⟩ := hQ9      -- what it returned, that it wrote nothing old, and the rest of your Q2
  have N9 := Fr.app N8 N9q
  have q9 : T9.heap = h0 := e9.trans q8
  refine ⟨T9, _, X9, q9, N9, fun target kt => ?_⟩
  show Steps p.tables e below (T0.setTop (mkF m 100 #[s0, s1, s2, s3, s4, s5, .val (.ref o6), .val (.ref rr)] [])) _
  refine XS.aload X0.here hx rfl (hb hby at_100) rfl rfl ?_
  show Steps p.tables e below (T0.setTop (mkF m 102 #[s0, s1, s2, s3, s4, s5, .val (.ref o6), .val (.ref rr)] [(.ref rr)])) _
  refine XS.aload X0.here hx rfl (hb hby at_102) rfl rfl ?_
  show Steps p.tables e below (T0.setTop (mkF m 104 #[s0, s1, s2, s3, s4, s5, .val (.ref o6), .val (.ref rr)] [(.ref o6), (.ref rr)])) _
  refine XS.iconst X0.here hx rfl (hb hby at_104) ?_
  show Steps p.tables e below (T0.setTop (mkF m 105 #[s0, s1, s2, s3, s4, s5, .val (.ref o6), .val (.ref rr)] [(.int (0 : Int32)), (.ref o6), (.ref rr)])) _
  refine st6 _ ?_
  show Steps p.tables e below (T6.setTop (mkF m 108 #[s0, s1, s2, s3, s4, s5, .val (.ref o6), .val (.ref rr)] [(.int (1 : Int32))])) _
  refine XS.ifNo X6.here hx rfl (hb hby at_108) rfl ((if0 _ _).trans (feq (by decide : ¬ ((1 : Int32) = (0 : Int32)))).1) ?_
  show Steps p.tables e below (T6.setTop (mkF m 111 #[s0, s1, s2, s3, s4, s5, .val (.ref o6), .val (.ref rr)] [])) _
  refine XS.aload X6.here hx rfl (hb hby at_111) rfl rfl ?_
  show Steps p.tables e below (T6.setTop (mkF m 113 #[s0, s1, s2, s3, s4, s5, .val (.ref o6), .val (.ref rr)] [(.ref rr)])) _
  refine XS.aload X6.here hx rfl (hb hby at_113) rfl rfl ?_
  show Steps p.tables e below (T6.setTop (mkF m 115 #[s0, s1, s2, s3, s4, s5, .val (.ref o6), .val (.ref rr)] [(.ref o6), (.ref rr)])) _
  refine XS.iconst X6.here hx rfl (hb hby at_115) ?_
  show Steps p.tables e below (T6.setTop (mkF m 116 #[s0, s1, s2, s3, s4, s5, .val (.ref o6), .val (.ref rr)] [(.int (1 : Int32)), (.ref o6), (.ref rr)])) _
  refine st7 _ ?_
  show Steps p.tables e below (T7.setTop (mkF m 119 #[s0, s1, s2, s3, s4, s5, .val (.ref o6), .val (.ref rr)] [(.int (1 : Int32))])) _
  refine XS.ifNo X7.here hx rfl (hb hby at_119) rfl ((if0 _ _).trans (feq (by decide : ¬ ((1 : Int32) = (0 : Int32)))).1) ?_
  show Steps p.tables e below (T7.setTop (mkF m 122 #[s0, s1, s2, s3, s4, s5, .val (.ref o6), .val (.ref rr)] [])) _
  refine XS.aload X7.here hx rfl (hb hby at_122) rfl rfl ?_
  show Steps p.tables e below (T7.setTop (mkF m 124 #[s0, s1, s2, s3, s4, s5, .val (.ref o6), .val (.ref rr)] [(.ref rr)])) _
  refine XS.aload X7.here hx rfl (hb hby at_124) rfl rfl ?_
  show Steps p.tables e below (T7.setTop (mkF m 126 #[s0, s1, s2, s3, s4, s5, .val (.ref o6), .val (.ref rr)] [(.ref o6), (.ref rr)])) _
  refine XS.iconst X7.here hx rfl (hb hby at_126) ?_
  show Steps p.tables e below (T7.setTop (mkF m 127 #[s0, s1, s2, s3, s4, s5, .val (.ref o6), .val (.ref rr)] [(.int (2 : Int32)), (.ref o6), (.ref rr)])) _
  refine st8 _ ?_
  show Steps p.tables e below (T8.setTop (mkF m 130 #[s0, s1, s2, s3, s4, s5, .val (.ref o6), .val (.ref rr)] [(.int (1 : Int32))])) _
  refine XS.ifNo X8.here hx rfl (hb hby at_130) rfl ((if0 _ _).trans (feq (by decide : ¬ ((1 : Int32) = (0 : Int32)))).1) ?_
  show Steps p.tables e below (T8.setTop (mkF m 133 #[s0, s1, s2, s3, s4, s5, .val (.ref o6), .val (.ref rr)] [])) _
  refine XS.aload X8.here hx rfl (hb hby at_133) rfl rfl ?_
  show Steps p.tables e below (T8.setTop (mkF m 135 #[s0, s1, s2, s3, s4, s5, .val (.ref o6), .val (.ref rr)] [(.ref rr)])) _
  refine XS.aload X8.here hx rfl (hb hby at_135) rfl rfl ?_
  show Steps p.tables e below (T8.setTop (mkF m 137 #[s0, s1, s2, s3, s4, s5, .val (.ref o6), .val (.ref rr)] [(.ref o6), (.ref rr)])) _
  refine XS.iconst X8.here hx rfl (hb hby at_137) ?_
  show Steps p.tables e below (T8.setTop (mkF m 138 #[s0, s1, s2, s3, s4, s5, .val (.ref o6), .val (.ref rr)] [(.int (3 : Int32)), (.ref o6), (.ref rr)])) _
  refine st9 _ ?_
  show Steps p.tables e below (T9.setTop (mkF m 141 #[s0, s1, s2, s3, s4, s5, .val (.ref o6), .val (.ref rr)] [(.int (1 : Int32))])) _
  refine XS.ifYes X9.here hx rfl (pc0 := 141) (pc' := 146) rfl (hb hby at_141) rfl ((if0 _ _).trans (feq (by decide : ¬ ((1 : Int32) = (0 : Int32)))).2) (by decide) (by decide) ?_
  exact kt

set_option maxRecDepth 65536 in
set_option maxHeartbeats 40000000 in
theorem tn0_146_195 {p : Program} {l : Launch} {e : Env} {s : State} {m : MethodId} {args : Array Value} {below : List Frame} {meth : Method} {c : Code} {T0 : State} {locs : List Loc} {Z : State} {a0 : Array Value} {h0 : Heap} (s0 : Slot) (s1 : Slot) (s2 : Slot) (s3 : Slot) (s4 : Slot) (s5 : Slot) (o6 : Addr) (rr : Addr) (kr : ClassId) (n : Nat) (tv : Nat → Nat) (r : Nat → Addr) (G : Nat → Nat → Int32) (n0 : Nat)
    (X0 : Stand p l e room_1 s m args below meth c T0 locs 7 28) (hx : p.tables.exec = Jvm.exec) (hZ : Z.Warmed39 s.vm) (hw : ∀ d ∈ tables_1, d.before a0 Z = true) (hby : c.code = code) (hml : c.maxLocals = 8) (hown : s.vm.findClass "com/example/libpiecewise/libpiecewise/TransformationMonoidPreimagesPinLaw" = some m.cls) (e0 : T0.heap = h0) (Z0 : n0 ≤ h0.size) (N0 : Fr n0 locs) (hn : n ≤ 4) (htv : ∀ j, j < n → tv j < n) (V : own_arr Z h0 o6 n (own_ft tv)) (RS : own_res Z h0 rr kr n tv r G) :
    ∃ (T' : State) (locs' : List Loc), Stand p l e room_1 s m args below meth c T' locs' 7 28 ∧ T'.heap = h0 ∧ Fr n0 locs' ∧
      ∀ target, Steps p.tables e below (T'.setTop (mkF m 195 #[s0, s1, s2, s3, s4, s5, .val (.ref o6), .val (.ref rr)] [(.int (1 : Int32))])) target → Steps p.tables e below (T0.setTop (mkF m 146 #[s0, s1, s2, s3, s4, s5, .val (.ref o6), .val (.ref rr)] [])) target := by
  obtain ⟨_, _, ⟨T6, L6, k6, n6⟩, -, X6, ⟨Lc6, hQ6, l6, y6, z6⟩, st6⟩ := Jvm.LawKit.callS X0 hx (y := (⟨"com/example/libpiecewise/libpiecewise/TransformationMonoidPreimagesPinLaw", "placeOk", "([[I[II)Z"⟩ : MethodName)) hown (mvT hZ (hw _ (List.mem_of_getElem? (i := 12) rfl))) (mvT hZ (hw _ (List.mem_of_getElem? (i := 13) rfl))) (mvT hZ (hw _ (List.mem_of_getElem? (i := 10) rfl))) (mvT hZ (hw _ (List.mem_of_getElem? (i := 14) rfl))) (by decide) (backOf (W := 0) (rm3 l Z a0 hw [] o6 0 rr kr n tv r G  h0 n0 Z0 hn (by decide) htv V RS) hZ (hw _ (List.mem_of_getElem? (i := 14) rfl)) (hw _ (List.mem_of_getElem? (i := 10) rfl)) (by decide) (by decide)) (g := (mkF m 151 #[s0, s1, s2, s3, s4, s5, .val (.ref o6), .val (.ref rr)] [(.int (0 : Int32)), (.ref o6), (.ref rr)])) rfl (by rw [hml]; rfl) (argsL := [(.ref rr), (.ref o6), (.int (0 : Int32))]) (rest := []) (lenOf pd_0_1 rfl) rfl (by show 2 * 0 + _ ≤ _; exact Nat.le_of_eq rfl) (hb hby at_151) (fun _ _ => ⟨rfl, e0, (by decide : 7 + 0 ≤ _), (by decide : 28 + 0 ≤ _)⟩)
  dsimp only [Pt.U, Pt.locs, Pt.cells, Pt.slots] at X6 l6 y6 z6 st6 hQ6
  subst l6 y6 z6
  obtain ⟨rfl, N6q, e6⟩ := hQ6      -- what it returned, that it wrote nothing old, and the rest of your Q3
  have N6 := Fr.app N0 N6q
  have q6 : T6.heap = h0 := e6
  obtain ⟨_, _, ⟨T7, L7, k7, n7⟩, -, X7, ⟨Lc7, hQ7, l7, y7, z7⟩, st7⟩ := Jvm.LawKit.callS X6 hx (y := (⟨"com/example/libpiecewise/libpiecewise/TransformationMonoidPreimagesPinLaw", "placeOk", "([[I[II)Z"⟩ : MethodName)) hown (mvT hZ (hw _ (List.mem_of_getElem? (i := 12) rfl))) (mvT hZ (hw _ (List.mem_of_getElem? (i := 13) rfl))) (mvT hZ (hw _ (List.mem_of_getElem? (i := 10) rfl))) (mvT hZ (hw _ (List.mem_of_getElem? (i := 14) rfl))) (by decide) (backOf (W := 0) (rm3 l Z a0 hw [] o6 1 rr kr n tv r G  T6.heap n0 (by rw [q6]; exact Z0) hn (by decide) htv (by rw [q6]; exact V) (by rw [q6]; exact RS)) hZ (hw _ (List.mem_of_getElem? (i := 14) rfl)) (hw _ (List.mem_of_getElem? (i := 10) rfl)) (by decide) (by decide)) (g := (mkF m 162 #[s0, s1, s2, s3, s4, s5, .val (.ref o6), .val (.ref rr)] [(.int (1 : Int32)), (.ref o6), (.ref rr)])) rfl (by rw [hml]; rfl) (argsL := [(.ref rr), (.ref o6), (.int (1 : Int32))]) (rest := []) (lenOf pd_0_1 rfl) rfl (by show 2 * 0 + _ ≤ _; exact Nat.le_of_eq rfl) (hb hby at_162) (fun _ _ => ⟨rfl, rfl, (by decide : 7 + 0 ≤ _), (by decide : 28 + 0 ≤ _)⟩)
  dsimp only [Pt.U, Pt.locs, Pt.cells, Pt.slots] at X7 l7 y7 z7 st7 hQ7
  subst l7 y7 z7
  obtain ⟨rfl, N7q, e7⟩ := hQ7      -- what it returned, that it wrote nothing old, and the rest of your Q3
  have N7 := Fr.app N6 N7q
  have q7 : T7.heap = h0 := e7.trans q6
  obtain ⟨_, _, ⟨T8, L8, k8, n8⟩, -, X8, ⟨Lc8, hQ8, l8, y8, z8⟩, st8⟩ := Jvm.LawKit.callS X7 hx (y := (⟨"com/example/libpiecewise/libpiecewise/TransformationMonoidPreimagesPinLaw", "placeOk", "([[I[II)Z"⟩ : MethodName)) hown (mvT hZ (hw _ (List.mem_of_getElem? (i := 12) rfl))) (mvT hZ (hw _ (List.mem_of_getElem? (i := 13) rfl))) (mvT hZ (hw _ (List.mem_of_getElem? (i := 10) rfl))) (mvT hZ (hw _ (List.mem_of_getElem? (i := 14) rfl))) (by decide) (backOf (W := 0) (rm3 l Z a0 hw [] o6 2 rr kr n tv r G  T7.heap n0 (by rw [q7]; exact Z0) hn (by decide) htv (by rw [q7]; exact V) (by rw [q7]; exact RS)) hZ (hw _ (List.mem_of_getElem? (i := 14) rfl)) (hw _ (List.mem_of_getElem? (i := 10) rfl)) (by decide) (by decide)) (g := (mkF m 173 #[s0, s1, s2, s3, s4, s5, .val (.ref o6), .val (.ref rr)] [(.int (2 : Int32)), (.ref o6), (.ref rr)])) rfl (by rw [hml]; rfl) (argsL := [(.ref rr), (.ref o6), (.int (2 : Int32))]) (rest := []) (lenOf pd_0_1 rfl) rfl (by show 2 * 0 + _ ≤ _; exact Nat.le_of_eq rfl) (hb hby at_173) (fun _ _ => ⟨rfl, rfl, (by decide : 7 + 0 ≤ _), (by decide : 28 + 0 ≤ _)⟩)
  dsimp only [Pt.U, Pt.locs, Pt.cells, Pt.slots] at X8 l8 y8 z8 st8 hQ8
  subst l8 y8 z8
  obtain ⟨rfl, N8q, e8⟩ := hQ8      -- what it returned, that it wrote nothing old, and the rest of your Q3
  have N8 := Fr.app N7 N8q
  have q8 : T8.heap = h0 := e8.trans q7
  obtain ⟨_, _, ⟨T9, L9, k9, n9⟩, -, X9, ⟨Lc9, hQ9, l9, y9, z9⟩, st9⟩ := Jvm.LawKit.callS X8 hx (y := (⟨"com/example/libpiecewise/libpiecewise/TransformationMonoidPreimagesPinLaw", "placeOk", "([[I[II)Z"⟩ : MethodName)) hown (mvT hZ (hw _ (List.mem_of_getElem? (i := 12) rfl))) (mvT hZ (hw _ (List.mem_of_getElem? (i := 13) rfl))) (mvT hZ (hw _ (List.mem_of_getElem? (i := 10) rfl))) (mvT hZ (hw _ (List.mem_of_getElem? (i := 14) rfl))) (by decide) (backOf (W := 0) (rm3 l Z a0 hw [] o6 3 rr kr n tv r G  T8.heap n0 (by rw [q8]; exact Z0) hn (by decide) htv (by rw [q8]; exact V) (by rw [q8]; exact RS)) hZ (hw _ (List.mem_of_getElem? (i := 14) rfl)) (hw _ (List.mem_of_getElem? (i := 10) rfl)) (by decide) (by decide)) (g := (mkF m 184 #[s0, s1, s2, s3, s4, s5, .val (.ref o6), .val (.ref rr)] [(.int (3 : Int32)), (.ref o6), (.ref rr)])) rfl (by rw [hml]; rfl) (argsL := [(.ref rr), (.ref o6), (.int (3 : Int32))]) (rest := []) (lenOf pd_0_1 rfl) rfl (by show 2 * 0 + _ ≤ _; exact Nat.le_of_eq rfl) (hb hby at_184) (fun _ _ => ⟨rfl, rfl, (by decide : 7 + 0 ≤ _), (by decide : 28 + 0 ≤ _)⟩)
  dsimp only [Pt.U, Pt.locs, Pt.cells, Pt.slots] at X9 l9 y9 z9 st9 hQ9
  subst l9 y9 z9
  obtain ⟨rfl, N9q, e9⟩ := hQ9      -- what it returned, that it wrote nothing old, and the rest of your Q3
  have N9 := Fr.app N8 N9q
  have q9 : T9.heap = h0 := e9.trans q8
  refine ⟨T9, _, X9, q9, N9, fun target kt => ?_⟩
  show Steps p.tables e below (T0.setTop (mkF m 146 #[s0, s1, s2, s3, s4, s5, .val (.ref o6), .val (.ref rr)] [])) _
  refine XS.aload X0.here hx rfl (hb hby at_146) rfl rfl ?_
  show Steps p.tables e below (T0.setTop (mkF m 148 #[s0, s1, s2, s3, s4, s5, .val (.ref o6), .val (.ref rr)] [(.ref rr)])) _
  refine XS.aload X0.here hx rfl (hb hby at_148) rfl rfl ?_
  show Steps p.tables e below (T0.setTop (mkF m 150 #[s0, s1, s2, s3, s4, s5, .val (.ref o6), .val (.ref rr)] [(.ref o6), (.ref rr)])) _
  refine XS.iconst X0.here hx rfl (hb hby at_150) ?_
  show Steps p.tables e below (T0.setTop (mkF m 151 #[s0, s1, s2, s3, s4, s5, .val (.ref o6), .val (.ref rr)] [(.int (0 : Int32)), (.ref o6), (.ref rr)])) _
  refine st6 _ ?_
  show Steps p.tables e below (T6.setTop (mkF m 154 #[s0, s1, s2, s3, s4, s5, .val (.ref o6), .val (.ref rr)] [(.int (1 : Int32))])) _
  refine XS.ifNo X6.here hx rfl (hb hby at_154) rfl ((if0 _ _).trans (feq (by decide : ¬ ((1 : Int32) = (0 : Int32)))).1) ?_
  show Steps p.tables e below (T6.setTop (mkF m 157 #[s0, s1, s2, s3, s4, s5, .val (.ref o6), .val (.ref rr)] [])) _
  refine XS.aload X6.here hx rfl (hb hby at_157) rfl rfl ?_
  show Steps p.tables e below (T6.setTop (mkF m 159 #[s0, s1, s2, s3, s4, s5, .val (.ref o6), .val (.ref rr)] [(.ref rr)])) _
  refine XS.aload X6.here hx rfl (hb hby at_159) rfl rfl ?_
  show Steps p.tables e below (T6.setTop (mkF m 161 #[s0, s1, s2, s3, s4, s5, .val (.ref o6), .val (.ref rr)] [(.ref o6), (.ref rr)])) _
  refine XS.iconst X6.here hx rfl (hb hby at_161) ?_
  show Steps p.tables e below (T6.setTop (mkF m 162 #[s0, s1, s2, s3, s4, s5, .val (.ref o6), .val (.ref rr)] [(.int (1 : Int32)), (.ref o6), (.ref rr)])) _
  refine st7 _ ?_
  show Steps p.tables e below (T7.setTop (mkF m 165 #[s0, s1, s2, s3, s4, s5, .val (.ref o6), .val (.ref rr)] [(.int (1 : Int32))])) _
  refine XS.ifNo X7.here hx rfl (hb hby at_165) rfl ((if0 _ _).trans (feq (by decide : ¬ ((1 : Int32) = (0 : Int32)))).1) ?_
  show Steps p.tables e below (T7.setTop (mkF m 168 #[s0, s1, s2, s3, s4, s5, .val (.ref o6), .val (.ref rr)] [])) _
  refine XS.aload X7.here hx rfl (hb hby at_168) rfl rfl ?_
  show Steps p.tables e below (T7.setTop (mkF m 170 #[s0, s1, s2, s3, s4, s5, .val (.ref o6), .val (.ref rr)] [(.ref rr)])) _
  refine XS.aload X7.here hx rfl (hb hby at_170) rfl rfl ?_
  show Steps p.tables e below (T7.setTop (mkF m 172 #[s0, s1, s2, s3, s4, s5, .val (.ref o6), .val (.ref rr)] [(.ref o6), (.ref rr)])) _
  refine XS.iconst X7.here hx rfl (hb hby at_172) ?_
  show Steps p.tables e below (T7.setTop (mkF m 173 #[s0, s1, s2, s3, s4, s5, .val (.ref o6), .val (.ref rr)] [(.int (2 : Int32)), (.ref o6), (.ref rr)])) _
  refine st8 _ ?_
  show Steps p.tables e below (T8.setTop (mkF m 176 #[s0, s1, s2, s3, s4, s5, .val (.ref o6), .val (.ref rr)] [(.int (1 : Int32))])) _
  refine XS.ifNo X8.here hx rfl (hb hby at_176) rfl ((if0 _ _).trans (feq (by decide : ¬ ((1 : Int32) = (0 : Int32)))).1) ?_
  show Steps p.tables e below (T8.setTop (mkF m 179 #[s0, s1, s2, s3, s4, s5, .val (.ref o6), .val (.ref rr)] [])) _
  refine XS.aload X8.here hx rfl (hb hby at_179) rfl rfl ?_
  show Steps p.tables e below (T8.setTop (mkF m 181 #[s0, s1, s2, s3, s4, s5, .val (.ref o6), .val (.ref rr)] [(.ref rr)])) _
  refine XS.aload X8.here hx rfl (hb hby at_181) rfl rfl ?_
  show Steps p.tables e below (T8.setTop (mkF m 183 #[s0, s1, s2, s3, s4, s5, .val (.ref o6), .val (.ref rr)] [(.ref o6), (.ref rr)])) _
  refine XS.iconst X8.here hx rfl (hb hby at_183) ?_
  show Steps p.tables e below (T8.setTop (mkF m 184 #[s0, s1, s2, s3, s4, s5, .val (.ref o6), .val (.ref rr)] [(.int (3 : Int32)), (.ref o6), (.ref rr)])) _
  refine st9 _ ?_
  show Steps p.tables e below (T9.setTop (mkF m 187 #[s0, s1, s2, s3, s4, s5, .val (.ref o6), .val (.ref rr)] [(.int (1 : Int32))])) _
  refine XS.ifNo X9.here hx rfl (hb hby at_187) rfl ((if0 _ _).trans (feq (by decide : ¬ ((1 : Int32) = (0 : Int32)))).1) ?_
  show Steps p.tables e below (T9.setTop (mkF m 190 #[s0, s1, s2, s3, s4, s5, .val (.ref o6), .val (.ref rr)] [])) _
  refine XS.iconst X9.here hx rfl (hb hby at_190) ?_
  show Steps p.tables e below (T9.setTop (mkF m 191 #[s0, s1, s2, s3, s4, s5, .val (.ref o6), .val (.ref rr)] [(.int (1 : Int32))])) _
  refine XS.goto X9.here hx rfl (pc0 := 191) (pc' := 195) rfl (hb hby at_191) (by decide) (by decide) ?_
  exact kt

def Q0 (Z : State) (h0 : Heap) (n0 : Nat) (v : Option Value) (h : Heap) (L : List Loc) : Prop := v = some (.int (1 : Int32)) ∧ Fr n0 L
set_option maxRecDepth 65536 in
set_option maxHeartbeats 40000000 in
theorem rm0 (l : Launch) (Z : State) (a0 : Array Value) (hw : ∀ d ∈ tables_1, d.before a0 Z = true) (ws : List Jvm.Cond) (p1 p2 p3 p4 p5 : Int32) (h0 : Heap) (n0 : Nat) (Z0 : n0 ≤ h0.size) :
    MetFree l x (head1 (Jvm.Cond.code x code maxLocals ret :: ws) room_1) (fun a U => a = #[(.int p1), (.int p2), (.int p3), (.int p4), (.int p5)] ∧ Z.Warmed39 U.vm ∧ U.heap = h0) (fun _ _ _ _ _ => True) (fun _ U o U' => ∃ v L, o = .returned v ∧ Q0 Z h0 n0 v U'.heap L ∧ FrameEnd U o U' L room_1.cells room_1.slots) := by
  refine MetFree.of_bodySF (plainFor_of_name pn_0) hisR ?_
  intro p e s m args below meth c s₁ Bd hml0 hP hK
  obtain ⟨rfl, hZ, hh⟩ := hP
  have hx := Bd.exec
  have hby := Bd.bytes
  have hml : c.maxLocals = 8 := hml0
  have hown : s.vm.findClass "com/example/libpiecewise/libpiecewise/TransformationMonoidPreimagesPinLaw" = some m.cls := findClass_of_methodNamed Bd.named
  have X0 : Stand p l e room_1 s m #[(.int p1), (.int p2), (.int p3), (.int p4), (.int p5)] below meth c s₁ [] 0 0 := Stand.of_body Bd
  have e0 : s₁.heap = h0 := by rw [← hh, Bd.state]; rfl
  have N0 := Fr.nil n0
  have pre0 : ∀ t, Steps p.tables e below (s₁.setTop (mkF m 0 #[.val (.int p1), .val (.int p2), .val (.int p3), .val (.int p4), .val (.int p5), .unset, .unset, .unset] [])) t → Steps p.tables e below (s₁.setTop (entryFrame m #[(.int p1), (.int p2), (.int p3), (.int p4), (.int p5)] maxLocals)) t := fun t k => castTop (ef_0 m p1 p2 p3 p4 p5) k
  obtain ⟨n, hn, en⟩ := own_len p1
  obtain ⟨T1, X1, e1, st1⟩ := tn0_0_8 p1 (.val (.int p2)) (.val (.int p3)) (.val (.int p4)) (.val (.int p5)) .unset .unset .unset X0 hx hZ hw hby hml hown e0 One.u
  rw [en] at st1
  obtain ⟨T2, h2, ta, X2, e2, E2, g2, V2, st2⟩ := tn0_8_14 (.val (.int p1)) (.val (.int p2)) (.val (.int p3)) (.val (.int p4)) (.val (.int p5)) n .unset .unset n0 X1 hx hZ hw hby hml hown e1 Z0 hn One.u
  have hta : h0.size ≤ ta := Nat.le_of_eq g2.symm
  have gta : n0 ≤ ta := Nat.le_trans Z0 hta
  have K2 : Keep h0 h2 [] := (Keep.refl h0 []).ext E2
  obtain ⟨T3, h3, L3, X3, e3, N3, Z3, K3, V3, st3⟩ := fill_0 p1 p2 p3 p4 p5 n ta n0 h0 X2 hx hZ hw hby hml hown e2 (Nat.le_trans Z0 K2.1) N0 hn gta hta K2 (V2.congr fun j hj => by rw [if_neg (Nat.not_lt_zero j)])
  obtain ⟨T4, h4, L4, X4, e4, N4, Z4, K4, V4, st4⟩ := fill_1 p1 p2 p3 p4 p5 n ta n0 h0 X3 hx hZ hw hby hml hown e3 Z3 N3 hn gta hta K3 V3
  obtain ⟨T5, h5, L5, X5, e5, N5, Z5, K5, V5, st5⟩ := fill_2 p1 p2 p3 p4 p5 n ta n0 h0 X4 hx hZ hw hby hml hown e4 Z4 N4 hn gta hta K4 V4
  obtain ⟨T6, h6, L6, X6, e6, N6, Z6, K6, V6, st6⟩ := fill_3 p1 p2 p3 p4 p5 n ta n0 h0 X5 hx hZ hw hby hml hown e5 Z5 N5 hn gta hta K5 V5
  have htv := own_tv_lt p2 p3 p4 p5 n hn
  have V6' : own_arr Z h6 ta n (own_ft (own_tv p2 p3 p4 p5 n)) := V6.congr fun j hj => by rw [if_pos (show j < 3 + 1 by omega)]
  obtain ⟨T7, h7, L7, rr, kr, r, G, X7, e7, N7, K7, RS, st7⟩ := tn0_78_85 (.val (.int p1)) (.val (.int p2)) (.val (.int p3)) (.val (.int p4)) (.val (.int p5)) (.val (.int (Int32.ofNat n))) ta .unset n (own_tv p2 p3 p4 p5 n) n0 X6 hx hZ hw hby hml hown e6 Z6 N6 hn htv V6' One.u
  have Z7 : n0 ≤ h7.size := Nat.le_trans Z6 K7.1
  have V7 := V6'.keep K7
  have RS' := RS
  obtain ⟨⟨cr, Ar, qr, Sr, Hr⟩, -, -⟩ := RS'
  obtain ⟨T8, X8, e8, st8⟩ := tn0_85_100 (.val (.int p1)) (.val (.int p2)) (.val (.int p3)) (.val (.int p4)) (.val (.int p5)) (Int32.ofNat n) (.val (.ref ta)) rr cr (Int32.ofNat n) X7 hx hZ hw hby hml hown e7 Ar (by rw [own_n32 (by omega)]; exact Sr) (own_nn (by omega)) rfl
  obtain ⟨T9, L9, X9, e9, N9, st9⟩ := tn0_100_146 (.val (.int p1)) (.val (.int p2)) (.val (.int p3)) (.val (.int p4)) (.val (.int p5)) (.val (.int (Int32.ofNat n))) ta rr kr n (own_tv p2 p3 p4 p5 n) r G n0 X8 hx hZ hw hby hml hown e8 Z7 N7 hn htv V7 RS
  obtain ⟨TA, LA, XA, eA, NA, stA⟩ := tn0_146_195 (.val (.int p1)) (.val (.int p2)) (.val (.int p3)) (.val (.int p4)) (.val (.int p5)) (.val (.int (Int32.ofNat n))) ta rr kr n (own_tv p2 p3 p4 p5 n) r G n0 X9 hx hZ hw hby hml hown e9 Z7 N9 hn htv V7 RS
  obtain ⟨fs, hr, hrun, hended, hW, hsame⟩ := XA.leave (v := some (.int (1 : Int32))) (fun h => by rw [Bd.returns] at h; cases h)
  refine ⟨_, _, pre0 _ ?_, hrun, hended, _, _, rfl, ?_, ⟨_, rfl⟩, hW, hsame.mono (by decide) (by decide)⟩
  · refine st1 _ (st2 _ (st3 _ (st4 _ (st5 _ (st6 _ (st7 _ (st8 _ (st9 _ (stA _ ?_)))))))))
    exact retN XA hx (t := .boolean) Bd.returns (by simp) (hb hby at_195) hr
  · show Q0 Z h0 n0 _ TA.heap _
    exact ⟨rfl, NA⟩
set_option maxRecDepth 65536 in
set_option maxHeartbeats 40000000 in
theorem comes_1 {Post : Tables → Env → Array Value → State → Outcome → State → Prop} (hpost : ∀ tb e args s v u, (limb_1_1.after args s (.returned v) u = true ∧ limb_1_2.after args s (.returned v) u = true ∧ True) → FrameEnd s (.returned v) u (Jvm.fieldLocs frame_1_writes args s ++ Jvm.arrayLocs frame_1_arrays args s ++ Jvm.staticLocs frame_1_statics s) 24 128 → Post tb e args s (.returned v) u) :
    ArmFor flags0 classFile x code maxLocals ret World_1 tables_1 room_1 Calls_1 rest_1 Pre_1 Post := by
  intro l hfl _ _ p e ha hc hk s m args below hf hA hF happ hP
  obtain ⟨hcalls, hrest, hpre⟩ := hP
  obtain ⟨-, -, -, hnamed, -, -, -, hat⟩ := (Spec.applies_iff hf).mp happ
  obtain ⟨hg, hn⟩ := and_e (Cond.before_iff.mp (show (Jvm.Cond.and given_1 narrow_1).before args s = true from hpre))
  obtain ⟨g16, g17⟩ := and_e hg
  obtain ⟨g18, g19⟩ := and_e g17
  obtain ⟨g20, g21⟩ := and_e g19
  obtain ⟨g22, g23⟩ := and_e g21
  obtain ⟨g24, g25⟩ := and_e g23
  obtain ⟨w0, w1, w2, w3, w4, rfl⟩ : ∃ w0 w1 w2 w3 w4 : Value, args = #[w0, w1, w2, w3, w4] := by
    have hs : args.size = 5 := by simpa [Cond.value, given_1] using g16
    obtain ⟨L⟩ := args
    match L, hs with
    | [w0, w1, w2, w3, w4], _ => exact ⟨w0, w1, w2, w3, w4, rfl⟩
  have hw := fun d (hd : d ∈ tables_1) => atoms_spec (ws := Jvm.Cond.code x code maxLocals ret :: tables_1) hat d (List.mem_cons_of_mem _ hd)
  have hfit : Fit s := fun {y c} hc i hi => by
    obtain ⟨ha, rfl⟩ := Array.getElem?_eq_some_iff.mp hc
    have q := List.all_eq_true.mp ((Array.all_eq_true_iff_forall_mem.mp hF) _ (Array.getElem_mem ha)) i (List.mem_range.mpr hi)
    simpa [Array.getElem?_eq_getElem hi] using q
  obtain ⟨i0, ei0⟩ := is_v g18
  obtain rfl : w0 = (.int i0) := Option.some.inj ei0
  obtain ⟨i1, ei1⟩ := is_v g20
  obtain rfl : w1 = (.int i1) := Option.some.inj ei1
  obtain ⟨i2, ei2⟩ := is_v g22
  obtain rfl : w2 = (.int i2) := Option.some.inj ei2
  obtain ⟨i3, ei3⟩ := is_v g24
  obtain rfl : w3 = (.int i3) := Option.some.inj ei3
  obtain ⟨i4, ei4⟩ := is_v g25
  obtain rfl : w4 = (.int i4) := Option.some.inj ei4
  obtain ⟨n, o, h1, h2, h3, _, L, rfl, ⟨rfl, N⟩, hq⟩ := rm0 l s _ hw tables_1 i0 i1 i2 i3 i4 s.heap s.heap.size (Nat.le_refl _) p e ha hc hk s m _ below hf ((Spec.applies_iff_loose hf).mp happ).1 ⟨rfl, State.Warmed39.refl s, rfl⟩ trivial
  refine ⟨n, _, h1, h2, h3, hpost _ _ _ _ _ _ ⟨Cond.after_iff.mpr rfl, Cond.after_iff.mpr (eq_i res_at (Term.int_eval (1)) rfl), trivial⟩ ⟨hq.1, hq.2.1, (hq.2.2.sift fun y hy => Or.inr (N y hy)).mono (by decide) (by decide)⟩⟩
theorem main_1_1 : Claimed_1_1 := comes_1 fun _ _ _ _ _ _ h hF => ⟨h.1, hF⟩
theorem main_1_2 : Claimed_1_2 := comes_1 fun _ _ _ _ _ _ h hF => ⟨h.2.1, hF⟩
end Jvm.Pilot.@@N@@
namespace Jvm.Pilot.@@N@@
open Jvm Jvm.ClassFile Sem Op Lib Jvm.Free Jvm.Stand Jvm.Pilot.@@N@@.Jvm.D
/-! MADE BY PROGRAM (witnessworld.py) out of the Statement's table words and the real class files: 9 classes; the members and pool entries that the words name. The judged class is class 1, her method 7. -/
namespace start1
open Jvm.ClassFile
def u (s : String) : CpInfo := .utf8 (stringToUtf16 s)
/-- a pool by its gaps: so many unusable entries, then the entry; so many at the end -/
def gap : Nat → List CpInfo → List CpInfo
  | 0, r => r
  | n + 1, r => .unusable :: gap n r
def poolList (es : List (Nat × CpInfo)) (last : Nat) : List CpInfo := es.foldr (fun e r => gap e.1 (e.2 :: r)) (gap last [])
def pool (es : List (Nat × CpInfo)) (last : Nat) : Array CpInfo := ⟨poolList es last⟩
def fileOf (pool : Array CpInfo) (this : Nat) (attrs : Array Attribute := #[]) (ms : Array MethodInfo := #[]) (fl : Nat := 33) (sup : Nat := 0) (ifs : Array Nat := #[]) (fds : Array FieldInfo := #[]) : ClassFile where
  minorVersion := 0
  majorVersion := 65
  constantPool := pool
  accessFlags := fl
  thisClass := this
  superClass := sup
  interfaces := ifs
  fields := fds
  methods := ms
  attributes := attrs
def plain (name : String) (sup : Option ClassId) : Class where
  name := name
  kind := .ordinary
  loader := none
  accessFlags := 33
  super := sup
  interfaces := #[]
  cf := none
  fields := #[]
  methods := #[]
  instanceTypes := #[]
  staticTypes := #[]
  resolved := #[]
  callSites := []
  init := .initialized
  statics := none
  mirror := none

def pool0 : Array CpInfo := pool [(5, u "<init>"), (0, u "()V"), (1, .class_ 10), (1, u "java/lang/Object")] 113

def k0m0 : Method := { name := "<init>", desc := "()V", sig := { parameters := [], returnType := none }, accessFlags := 1, code := none }
/-- java/lang/Object -/
def k0 : Class := { plain "java/lang/Object" none with
  accessFlags := 33
  interfaces := #[]
  cf := some (fileOf pool0 8 #[] #[{ accessFlags := 1, nameIndex := 5, descriptorIndex := 6, attributes := #[] }] 33 0 #[] #[])
  fields := #[]
  methods := #[k0m0]
  instanceTypes := #[]
  staticTypes := #[]
  resolved := Array.replicate 124 none
  statics := none }

def pool1 : Array CpInfo := pool [(2, .class_ 4), (1, u "java/lang/Object"), (0, u "<init>"), (0, u "()V"), (0, .integer 2147483647), (0, .methodref 9 10), (0, .class_ 11), (0, .nameAndType 12 13), (0, u "com/example/libpiecewise/libpiecewise/TransformationMonoidPreimagesPinLaw"), (0, u "at"), (0, u "([II)I"), (0, .methodref 9 15), (0, .nameAndType 16 13), (0, u "count"), (0, .methodref 9 18), (0, .nameAndType 19 13), (0, u "rank"), (0, .methodref 9 21), (0, .nameAndType 22 23), (0, u "img"), (0, u "(II)I"), (0, .methodref 25 26), (0, .class_ 27), (0, .nameAndType 28 29), (0, u "com/example/libpiecewise/libpiecewise/TransformationMonoid"), (0, u "preimages"), (0, u "([I)[[I"), (0, .methodref 9 31), (0, .nameAndType 32 33), (0, u "rowOk"), (0, u "([[I[II)Z"), (0, .methodref 9 35), (0, .nameAndType 36 33), (0, u "placeOk"), (3, u "law"), (0, u "(IIIII)Z")] 6

def k1m0 : Method := { name := "<init>", desc := "()V", sig := { parameters := [], returnType := none }, accessFlags := 1, code := none }
def k1c1 : Code := { maxStack := 2, maxLocals := 2, code := method_2_code, exceptionTable := #[], attributes := #[] }
def k1m1 : Method := { name := "img", desc := "(II)I", sig := { parameters := [.int, .int], returnType := some .int }, accessFlags := 10, code := some k1c1 }
def k1c2 : Code := { maxStack := 2, maxLocals := 2, code := method_3_code, exceptionTable := #[], attributes := #[] }
def k1m2 : Method := { name := "at", desc := "([II)I", sig := { parameters := [(.array .int), .int], returnType := some .int }, accessFlags := 10, code := some k1c2 }
def k1c3 : Code := { maxStack := 2, maxLocals := 3, code := method_4_code, exceptionTable := #[], attributes := #[] }
def k1m3 : Method := { name := "count", desc := "([II)I", sig := { parameters := [(.array .int), .int], returnType := some .int }, accessFlags := 10, code := some k1c3 }
def k1c4 : Code := { maxStack := 2, maxLocals := 4, code := method_5_code, exceptionTable := #[], attributes := #[] }
def k1m4 : Method := { name := "rank", desc := "([II)I", sig := { parameters := [(.array .int), .int], returnType := some .int }, accessFlags := 10, code := some k1c4 }
def k1c5 : Code := { maxStack := 3, maxLocals := 3, code := method_6_code, exceptionTable := #[], attributes := #[] }
def k1m5 : Method := { name := "rowOk", desc := "([[I[II)Z", sig := { parameters := [(.array (.array .int)), (.array .int), .int], returnType := some .boolean }, accessFlags := 10, code := some k1c5 }
def k1c6 : Code := { maxStack := 3, maxLocals := 3, code := method_7_code, exceptionTable := #[], attributes := #[] }
def k1m6 : Method := { name := "placeOk", desc := "([[I[II)Z", sig := { parameters := [(.array (.array .int)), (.array .int), .int], returnType := some .boolean }, accessFlags := 10, code := some k1c6 }
def k1c7 : Code := { maxStack := 4, maxLocals := 8, code := code, exceptionTable := #[], attributes := #[] }
def k1m7 : Method := { name := "law", desc := "(IIIII)Z", sig := { parameters := [.int, .int, .int, .int, .int], returnType := some .boolean }, accessFlags := 9, code := some k1c7 }
/-- com/example/libpiecewise/libpiecewise/TransformationMonoidPreimagesPinLaw -/
def k1 : Class := { plain "com/example/libpiecewise/libpiecewise/TransformationMonoidPreimagesPinLaw" (some 0) with
  accessFlags := 49
  interfaces := #[]
  cf := some (fileOf pool1 9 #[] #[{ accessFlags := 1, nameIndex := 5, descriptorIndex := 6, attributes := #[] }, { accessFlags := 10, nameIndex := 22, descriptorIndex := 23, attributes := #[] }, { accessFlags := 10, nameIndex := 12, descriptorIndex := 13, attributes := #[] }, { accessFlags := 10, nameIndex := 16, descriptorIndex := 13, attributes := #[] }, { accessFlags := 10, nameIndex := 19, descriptorIndex := 13, attributes := #[] }, { accessFlags := 10, nameIndex := 32, descriptorIndex := 33, attributes := #[] }, { accessFlags := 10, nameIndex := 36, descriptorIndex := 33, attributes := #[] }, { accessFlags := 9, nameIndex := 40, descriptorIndex := 41, attributes := #[] }] 49 2 #[] #[])
  fields := #[]
  methods := #[k1m0, k1m1, k1m2, k1m3, k1m4, k1m5, k1m6, k1m7]
  instanceTypes := #[]
  staticTypes := #[]
  resolved := Array.replicate 48 none
  statics := none }

def pool2 : Array CpInfo := pool [(6, .class_ 8), (1, u "com/example/libpiecewise/libpiecewise/TransformationMonoid"), (3, .class_ 14), (1, u "java/lang/Object"), (6, u "elements"), (0, u "Lcom/example/libpiecewise/libpiecewise/IntArrayNumbering;"), (0, .class_ 24), (0, u "[I"), (7, u "[[I"), (2, u "generators"), (12, .class_ 49), (0, u "com/example/libpiecewise/libpiecewise/TransformationMonoid$Words"), (24, u "rightProducts"), (2, u "leftProducts"), (2, u "whole"), (0, u "Z"), (121, .class_ 205), (1, u "com/example/libpiecewise/libpiecewise/TransformationMonoid$Letters"), (7, .class_ 215), (1, u "com/example/libpiecewise/libpiecewise/TransformationMonoid$SameLetters"), (2, u "ELEMENT_OVERHEAD_INTS"), (0, u "I"), (2, u "IDEMPOTENT_STEPS"), (0, u "Ljava/lang/String;"), (25, u "preimages"), (0, u "([I)[[I")] 66

def k2c0 : Code := { maxStack := 6, maxLocals := 6, code := prog_103_method_23_code, exceptionTable := #[], attributes := #[] }
def k2m0 : Method := { name := "preimages", desc := "([I)[[I", sig := { parameters := [(.array .int)], returnType := some (.array (.array .int)) }, accessFlags := 8, code := some k2c0 }
/-- com/example/libpiecewise/libpiecewise/TransformationMonoid -/
def k2 : Class := { plain "com/example/libpiecewise/libpiecewise/TransformationMonoid" (some 0) with
  accessFlags := 32
  interfaces := #[]
  cf := some (fileOf pool2 6 #[.nestMembers #[48, 203, 213]] #[{ accessFlags := 8, nameIndex := 249, descriptorIndex := 250, attributes := #[] }] 32 12 #[] #[{ accessFlags := 26, nameIndex := 218, descriptorIndex := 219, attributes := #[] }, { accessFlags := 26, nameIndex := 222, descriptorIndex := 223, attributes := #[] }, { accessFlags := 18, nameIndex := 35, descriptorIndex := 32, attributes := #[] }, { accessFlags := 18, nameIndex := 21, descriptorIndex := 22, attributes := #[] }, { accessFlags := 18, nameIndex := 74, descriptorIndex := 32, attributes := #[] }, { accessFlags := 18, nameIndex := 77, descriptorIndex := 32, attributes := #[] }, { accessFlags := 18, nameIndex := 80, descriptorIndex := 81, attributes := #[] }])
  fields := #[{ name := "ELEMENT_OVERHEAD_INTS", type := .int, accessFlags := 26, slot := 0, constantValue := 0 }, { name := "IDEMPOTENT_STEPS", type := (.object "java/lang/String"), accessFlags := 26, slot := 1, constantValue := 0 }, { name := "generators", type := (.array (.array .int)), accessFlags := 18, slot := 0, constantValue := 0 }, { name := "elements", type := (.object "com/example/libpiecewise/libpiecewise/IntArrayNumbering"), accessFlags := 18, slot := 1, constantValue := 0 }, { name := "rightProducts", type := (.array (.array .int)), accessFlags := 18, slot := 2, constantValue := 0 }, { name := "leftProducts", type := (.array (.array .int)), accessFlags := 18, slot := 3, constantValue := 0 }, { name := "whole", type := .boolean, accessFlags := 18, slot := 4, constantValue := 0 }]
  methods := #[k2m0]
  instanceTypes := #[(.array (.array .int)), (.object "com/example/libpiecewise/libpiecewise/IntArrayNumbering"), (.array (.array .int)), (.array (.array .int)), .boolean]
  staticTypes := #[.int, (.object "java/lang/String")]
  resolved := Array.replicate 317 none
  statics := none }

def pool3 : Array CpInfo := pool [(1, u "java/lang/Cloneable"), (0, .class_ 1), (0, u "java/lang/Object"), (0, .class_ 3)] 3

/-- java/lang/Cloneable -/
def k3 : Class := { plain "java/lang/Cloneable" (some 0) with
  accessFlags := 1537
  interfaces := #[]
  cf := some (fileOf pool3 2 #[] #[] 1537 4 #[] #[])
  fields := #[]
  methods := #[]
  instanceTypes := #[]
  staticTypes := #[]
  resolved := Array.replicate 8 none
  statics := none }

def pool4 : Array CpInfo := pool [(1, u "java/io/Serializable"), (0, .class_ 1), (0, u "java/lang/Object"), (0, .class_ 3)] 3

/-- java/io/Serializable -/
def k4 : Class := { plain "java/io/Serializable" (some 0) with
  accessFlags := 1537
  interfaces := #[]
  cf := some (fileOf pool4 2 #[] #[] 1537 4 #[] #[])
  fields := #[]
  methods := #[]
  instanceTypes := #[]
  staticTypes := #[]
  resolved := Array.replicate 8 none
  statics := none }

/-- the primitive byte -/
def k5 : Class := { plain "byte" none with kind := .primitive 'B', accessFlags := 0x411 }
/-- [B -/
def k6 : Class := { plain "[B" (some 0) with kind := .array 5 .byte, interfaces := #[3, 4], accessFlags := 1041 }

/-- the primitive int -/
def k7 : Class := { plain "int" none with kind := .primitive 'I', accessFlags := 0x411 }
/-- [I -/
def k8 : Class := { plain "[I" (some 0) with kind := .array 7 .int, interfaces := #[3, 4], accessFlags := 1041 }
/-- [[I -/
def k9 : Class := { plain "[[I" (some 0) with kind := .array 8 (.array .int), interfaces := #[3, 4], accessFlags := 1041 }

def heap : Heap := #[]
def classes : Array Class := #[k0, k1, k2, k3, k4, k5, k6, k7, k8, k9]
def interned : List (Array UInt16 × Addr) := []
def slotsUsed : Nat := 0
def theMethod : MethodId := ⟨1, 7⟩
def args0 : Array Value := #[.int 3, .int 4, .int 5, .int 6, .int 7]
def aboutOver (below : List Frame) : State where
  vm := { classes := classes, interned := interned.toArray }
  heap := heap
  slotsUsed := slotsUsed
  threads := #[{ frames := .invoking theMethod args0 :: below }]
def below0 : List Frame := [.native { method := ⟨0, 0⟩, args := #[] }]
def about1 : State := aboutOver below0
def p0 : Program := .bare "" "" ""
def e0 : Env := launch0.env 0 0 0
theorem w_frames : about1.frames = Frame.invoking theMethod args0 :: below0 := rfl
set_option maxRecDepth 65536 in
theorem w_args : argsFit about1.vm theMethod args0 = true := by decide +kernel
set_option maxRecDepth 65536 in
theorem w_heap : heapFits about1 = true := by decide +kernel
set_option maxRecDepth 65536 in
theorem w_runnable : about1.curStatus? = some .runnable := by decide +kernel
set_option maxRecDepth 65536 in
theorem w_alone : about1.alone = true := by decide +kernel
set_option maxRecDepth 65536 in
theorem w_named : about1.methodNamed? x = some theMethod := by decide +kernel
set_option maxRecDepth 65536 in
theorem w_hears : about1.hears theMethod below0 = true := by decide +kernel
set_option maxRecDepth 65536 in
theorem w_ripe : about1.ripe theMethod args0 below0 = true := by decide +kernel
theorem w_running : about1.status = .running := rfl
set_option maxRecDepth 65536 in
theorem w_room : about1.hasRoom e0.platform room_1 = true :=
  launch0.hasRoom_least _ room_1 (by decide +kernel) (by decide +kernel) (by decide +kernel) (by decide +kernel) (by decide +kernel) (by decide +kernel)
theorem allAtoms_all (ts : List Jvm.Cond) (a : Array Jvm.Value) (st : Jvm.State) : (allAtoms ts).before a st = ts.all (fun c => c.before a st) := by
  induction ts with
  | nil => rfl
  | cons c t ih =>
    show (Jvm.Cond.and c (allAtoms t)).before a st = _
    rw [Jvm.Cond.before_and, ih, List.all_cons]
def words1 : List Jvm.Cond := Jvm.Cond.code x code maxLocals ret :: tables_1
/-- a 'code' word, met by the world's own term for the bytes: nothing is compared byte by byte -/
theorem code_word {y : MethodName} {bytes : ByteArray} {mx : Nat} {rt : Option FieldType} {a : Array Value} {s : State} {m : MethodId} {meth : Method} {c : Code} (h1 : s.methodNamed? y = some m) (h2 : s.vm.method? m = some meth) (h3 : meth.code = some c) (h4 : c.code = bytes)
    (h5 : (c.maxLocals == mx && c.exceptionTable.isEmpty && decide (c.maxStack ≤ mostOperands) && decide (meth.sig.returnType = rt) && !meth.locks && decide (parseMethodDescriptor y.desc = some meth.sig)) = true) : (Jvm.Cond.code y bytes mx rt).before a s = true := by
  simp only [Bool.and_eq_true, beq_iff_eq, Bool.not_eq_true', decide_eq_true_eq] at h5
  obtain ⟨⟨⟨⟨⟨g1, g2⟩, g3⟩, g4⟩, g5⟩, g6⟩ := h5
  simp [Cond.before, Cond.holds, Cond.value, h1, h2, h3, h4, g1, g2, g3, g4, g5, g6]
def isCode : Jvm.Cond → Bool
  | .code _ _ _ _ => true
  | _ => false
theorem all_split {L : List Jvm.Cond} {P : Jvm.Cond → Bool} (h1 : L.all (fun c => isCode c || P c) = true) (h2 : ∀ c ∈ L.filter isCode, P c = true) : L.all P = true := by
  refine List.all_eq_true.mpr fun c hc => ?_
  have h := List.all_eq_true.mp h1 c hc
  rcases Bool.eq_false_or_eq_true (isCode c) with hi | hi
  · exact h2 c (List.mem_filter.mpr ⟨hc, hi⟩)
  · simpa [hi] using h
set_option maxRecDepth 65536 in
theorem w_c0 : (Jvm.Cond.code x code maxLocals ret).before args0 about1 = true := code_word (m := ⟨1, 7⟩) (meth := k1m7) (c := k1c7) (by decide +kernel) rfl rfl rfl (by decide +kernel)
set_option maxRecDepth 65536 in
theorem w_c1 : (Jvm.Cond.code ({ cls := "com/example/libpiecewise/libpiecewise/TransformationMonoid", name := "preimages", desc := "([I)[[I" } : Jvm.MethodName) prog_103_method_23_code (6 : Nat) (Option.some (Jvm.ClassFile.FieldType.array (Jvm.ClassFile.FieldType.array Jvm.ClassFile.FieldType.int)))).before args0 about1 = true := code_word (m := ⟨2, 0⟩) (meth := k2m0) (c := k2c0) (by decide +kernel) rfl rfl rfl (by decide +kernel)
set_option maxRecDepth 65536 in
theorem w_c2 : (Jvm.Cond.code ({ cls := "com/example/libpiecewise/libpiecewise/TransformationMonoidPreimagesPinLaw", name := "rowOk", desc := "([[I[II)Z" } : Jvm.MethodName) method_6_code (3 : Nat) (Option.some Jvm.ClassFile.FieldType.boolean)).before args0 about1 = true := code_word (m := ⟨1, 5⟩) (meth := k1m5) (c := k1c5) (by decide +kernel) rfl rfl rfl (by decide +kernel)
set_option maxRecDepth 65536 in
theorem w_c3 : (Jvm.Cond.code ({ cls := "com/example/libpiecewise/libpiecewise/TransformationMonoidPreimagesPinLaw", name := "placeOk", desc := "([[I[II)Z" } : Jvm.MethodName) method_7_code (3 : Nat) (Option.some Jvm.ClassFile.FieldType.boolean)).before args0 about1 = true := code_word (m := ⟨1, 6⟩) (meth := k1m6) (c := k1c6) (by decide +kernel) rfl rfl rfl (by decide +kernel)
set_option maxRecDepth 65536 in
theorem w_c4 : (Jvm.Cond.code ({ cls := "com/example/libpiecewise/libpiecewise/TransformationMonoidPreimagesPinLaw", name := "img", desc := "(II)I" } : Jvm.MethodName) method_2_code (2 : Nat) (Option.some Jvm.ClassFile.FieldType.int)).before args0 about1 = true := code_word (m := ⟨1, 1⟩) (meth := k1m1) (c := k1c1) (by decide +kernel) rfl rfl rfl (by decide +kernel)
set_option maxRecDepth 65536 in
theorem w_c5 : (Jvm.Cond.code ({ cls := "com/example/libpiecewise/libpiecewise/TransformationMonoidPreimagesPinLaw", name := "count", desc := "([II)I" } : Jvm.MethodName) method_4_code (3 : Nat) (Option.some Jvm.ClassFile.FieldType.int)).before args0 about1 = true := code_word (m := ⟨1, 3⟩) (meth := k1m3) (c := k1c3) (by decide +kernel) rfl rfl rfl (by decide +kernel)
set_option maxRecDepth 65536 in
theorem w_c6 : (Jvm.Cond.code ({ cls := "com/example/libpiecewise/libpiecewise/TransformationMonoidPreimagesPinLaw", name := "at", desc := "([II)I" } : Jvm.MethodName) method_3_code (2 : Nat) (Option.some Jvm.ClassFile.FieldType.int)).before args0 about1 = true := code_word (m := ⟨1, 2⟩) (meth := k1m2) (c := k1c2) (by decide +kernel) rfl rfl rfl (by decide +kernel)
set_option maxRecDepth 65536 in
theorem w_c7 : (Jvm.Cond.code ({ cls := "com/example/libpiecewise/libpiecewise/TransformationMonoidPreimagesPinLaw", name := "rank", desc := "([II)I" } : Jvm.MethodName) method_5_code (4 : Nat) (Option.some Jvm.ClassFile.FieldType.int)).before args0 about1 = true := code_word (m := ⟨1, 4⟩) (meth := k1m4) (c := k1c4) (by decide +kernel) rfl rfl rfl (by decide +kernel)
def codes1 : List Jvm.Cond := [Jvm.Cond.code x code maxLocals ret, Jvm.Cond.code ({ cls := "com/example/libpiecewise/libpiecewise/TransformationMonoid", name := "preimages", desc := "([I)[[I" } : Jvm.MethodName) prog_103_method_23_code (6 : Nat) (Option.some (Jvm.ClassFile.FieldType.array (Jvm.ClassFile.FieldType.array Jvm.ClassFile.FieldType.int))), Jvm.Cond.code ({ cls := "com/example/libpiecewise/libpiecewise/TransformationMonoidPreimagesPinLaw", name := "rowOk", desc := "([[I[II)Z" } : Jvm.MethodName) method_6_code (3 : Nat) (Option.some Jvm.ClassFile.FieldType.boolean), Jvm.Cond.code ({ cls := "com/example/libpiecewise/libpiecewise/TransformationMonoidPreimagesPinLaw", name := "placeOk", desc := "([[I[II)Z" } : Jvm.MethodName) method_7_code (3 : Nat) (Option.some Jvm.ClassFile.FieldType.boolean), Jvm.Cond.code ({ cls := "com/example/libpiecewise/libpiecewise/TransformationMonoidPreimagesPinLaw", name := "img", desc := "(II)I" } : Jvm.MethodName) method_2_code (2 : Nat) (Option.some Jvm.ClassFile.FieldType.int), Jvm.Cond.code ({ cls := "com/example/libpiecewise/libpiecewise/TransformationMonoidPreimagesPinLaw", name := "count", desc := "([II)I" } : Jvm.MethodName) method_4_code (3 : Nat) (Option.some Jvm.ClassFile.FieldType.int), Jvm.Cond.code ({ cls := "com/example/libpiecewise/libpiecewise/TransformationMonoidPreimagesPinLaw", name := "at", desc := "([II)I" } : Jvm.MethodName) method_3_code (2 : Nat) (Option.some Jvm.ClassFile.FieldType.int), Jvm.Cond.code ({ cls := "com/example/libpiecewise/libpiecewise/TransformationMonoidPreimagesPinLaw", name := "rank", desc := "([II)I" } : Jvm.MethodName) method_5_code (4 : Nat) (Option.some Jvm.ClassFile.FieldType.int)]
set_option maxRecDepth 65536 in
theorem codes_eq : words1.filter isCode = codes1 := rfl
theorem w_codes : ∀ c ∈ words1.filter isCode, c.before args0 about1 = true := by
  rw [codes_eq]
  intro c hc
  simp only [codes1, List.mem_cons, List.not_mem_nil, or_false] at hc
  rcases hc with rfl | rfl | rfl | rfl | rfl | rfl | rfl | rfl
  · exact w_c0
  · exact w_c1
  · exact w_c2
  · exact w_c3
  · exact w_c4
  · exact w_c5
  · exact w_c6
  · exact w_c7
set_option maxRecDepth 65536 in
theorem w_t1 : (words1.take 24).all (fun c => isCode c || c.before args0 about1) = true := by decide +kernel
set_option maxRecDepth 65536 in
theorem w_t2 : (words1.drop 24).all (fun c => isCode c || c.before args0 about1) = true := by decide +kernel
theorem w_tables : (allAtoms (Jvm.Cond.code x code maxLocals ret :: tables_1)).before args0 about1 = true := by
  rw [allAtoms_all]
  show words1.all (fun c => c.before args0 about1) = true
  refine all_split ?_ w_codes
  rw [← List.take_append_drop 24 words1, List.all_append, w_t1, w_t2]
  rfl
set_option maxRecDepth 65536 in
theorem w_case : (Jvm.Cond.and given_1 narrow_1).before args0 about1 = true := by decide +kernel
theorem w_applies : (headSpec (Jvm.Cond.code x code maxLocals ret :: tables_1) room_1).applies x e0.platform about1 = true :=
  (Spec.applies_iff w_frames).mpr ⟨w_running, w_runnable, w_alone, w_named, w_hears, w_ripe, w_room, w_tables⟩
theorem atStart : AtStart classFile x code maxLocals ret World_1 tables_1 room_1 Calls_1 rest_1 Pre_1 launch0 p0 e0 about1 theMethod args0 below0 :=
  ⟨lists_1, trivial, launch0.admits_env _ _ _, launch0.least_env, fairChoices_fair.cas, fairChoices_fair.clock, w_frames, w_args, w_heap, w_applies, trivial, trivial, w_case⟩
end start1
theorem witness_1 : WitnessClaimed_1 := ⟨start1.p0, start1.e0, start1.about1, start1.theMethod, start1.args0, start1.below0, start1.atStart⟩
end Jvm.Pilot.@@N@@
