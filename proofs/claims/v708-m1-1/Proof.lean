import JvmDerived
import JvmDerived.Pilot.@@N@@Statement
import JvmDerived.Pilot.@@N@@Code
set_option linter.unusedVariables false
set_option linter.unusedSimpArgs false
namespace Jvm.RoadKit
open Sem ClassFile Op Lib Jvm.Stand Jvm.Free Jvm.LawKit
section New
variable {p : Program} {l : Launch} {e : Env} {R : Room} {s : State} {m : MethodId} {args : Array Value} {below : List Frame} {meth : Method} {c : Code} {T : State} {locs : List Loc} {cells slots : Nat}
theorem retI (X : Stand p l e R s m args below meth c T locs cells slots) (hx : p.tables.exec = Jvm.exec) {pc : Nat} {Ls : Array Slot} {z : Int32} {rest : List Value} (hret : meth.sig.returnType = some .int) (hd : decode c.code pc = .ok (.ireturn, 1)) {fs : List Frame}
    (hl : ∀ (f : JFrame) (acts : List Action), f.method = m → f.locked = none → f.entered = [] → (doReturn e (T.setTop f) acts (some (.int z))).1 = T.setFrames fs) : Steps p.tables e below (T.setTop (mkF m pc Ls (.int z :: rest))) (T.setFrames fs) := by
  have hm' : T.vm.method? m = some meth := X.method'
  have hn : narrow .int (.int z) = .int z := rfl
  show Steps p.tables e below (T.setTop { method := m, pc := pc, locals := Ls, stack := _ :: rest, locked := none }) _
  jvm_step X.here [X.here.top, hx, hd, hm', hret, hn]
  first | (intro acts; rw [hl _ acts rfl rfl rfl]) | rw [hl _ _ rfl rfl rfl]
  exact Steps.refl _
end New
end Jvm.RoadKit
namespace Jvm.Pilot.@@N@@
open Jvm Jvm.ClassFile Sem Op Lib Jvm.Free Jvm.Stand Jvm.LawKit Jvm.RoadKit Bundle Jvm.Pilot.@@N@@.Jvm.D
def own_sel (c : Bool) (t f : Int32) : Int32 := bif c then t else f
theorem own_bif {tb : Tables} [Ours tb] {e : Env} {below : List Frame} {T target : State} {m : MethodId} {c : Code} {g : JFrame} (h : At T m c below) (hx : tb.exec = Jvm.exec) (hg : g.method = m) {cd : ClassFile.Cond} {x : Int32} {rest : List Value} {v1 v0 : Int} {pc0 : Nat} (hpc : g.pc = pc0) (hd : decode c.code pc0 = .ok (.ifCond cd 7, 3)) (hd1 : decode c.code (pc0 + 3) = .ok (.iconst v1, 1)) (hd2 : decode c.code (pc0 + 4) = .ok (.goto 4, 3)) (hd3 : decode c.code (pc0 + 7) = .ok (.iconst v0, 1)) (hs : g.stack = .int x :: rest)
    (hr : Steps tb e below (T.setTop { g with pc := pc0 + 8, stack := .int (own_sel (if_icmp.holds cd x 0) (Int32.ofInt v0) (Int32.ofInt v1)) :: rest }) target) : Steps tb e below (T.setTop g) target := by
  subst hpc
  cases hh : if_icmp.holds cd x 0 with
  | true =>
    refine XS.ifYes h hx hg (pc0 := g.pc) (pc' := g.pc + 7) rfl hd hs ((if0 _ _).trans hh) (by omega) (by omega) ?_
    refine XS.iconst h hx hg hd3 ?_
    rw [hh] at hr
    exact hr
  | false =>
    refine XS.ifNo h hx hg hd hs ((if0 _ _).trans hh) ?_
    refine XS.iconst h hx hg hd1 ?_
    refine XS.goto h hx hg (pc0 := g.pc + 4) (pc' := g.pc + 8) rfl hd2 (by omega) (by omega) ?_
    rw [hh] at hr
    exact hr
theorem own_bicmp {tb : Tables} [Ours tb] {e : Env} {below : List Frame} {T target : State} {m : MethodId} {c : Code} {g : JFrame} (h : At T m c below) (hx : tb.exec = Jvm.exec) (hg : g.method = m) {cd : ClassFile.Cond} {x y : Int32} {rest : List Value} {v1 v0 : Int} {pc0 : Nat} (hpc : g.pc = pc0) (hd : decode c.code pc0 = .ok (.if_icmp cd 7, 3)) (hd1 : decode c.code (pc0 + 3) = .ok (.iconst v1, 1)) (hd2 : decode c.code (pc0 + 4) = .ok (.goto 4, 3)) (hd3 : decode c.code (pc0 + 7) = .ok (.iconst v0, 1)) (hs : g.stack = .int y :: .int x :: rest)
    (hr : Steps tb e below (T.setTop { g with pc := pc0 + 8, stack := .int (own_sel (if_icmp.holds cd x y) (Int32.ofInt v0) (Int32.ofInt v1)) :: rest }) target) : Steps tb e below (T.setTop g) target := by
  subst hpc
  cases hh : if_icmp.holds cd x y with
  | true =>
    refine XS.icmpYes h hx hg (pc0 := g.pc) (pc' := g.pc + 7) rfl hd hs hh (by omega) (by omega) ?_
    refine XS.iconst h hx hg hd3 ?_
    rw [hh] at hr
    exact hr
  | false =>
    refine XS.icmpNo h hx hg hd hs hh ?_
    refine XS.iconst h hx hg hd1 ?_
    refine XS.goto h hx hg (pc0 := g.pc + 4) (pc' := g.pc + 8) rfl hd2 (by omega) (by omega) ?_
    rw [hh] at hr
    exact hr
theorem own_nar_sel (b : Bool) : nar .boolean (own_sel b (0 : Int32) (1 : Int32)) = own_sel b (0 : Int32) (1 : Int32) := by cases b <;> decide
section OwnRet
variable {p : Program} {l : Launch} {e : Env} {R : Room} {s : State} {m : MethodId} {args : Array Value} {below : List Frame} {meth : Method} {c : Code} {T : State} {locs : List Loc} {cells slots : Nat}
theorem own_retN (X : Stand p l e R s m args below meth c T locs cells slots) (hx : p.tables.exec = Jvm.exec) {pc : Nat} {Ls : Array Slot} {z : Int32} {t : FieldType} {rest : List Value} (hret : meth.sig.returnType = some t) (ht : t = .boolean ∨ t = .byte ∨ t = .char ∨ t = .short)
    (hd : decode c.code pc = .ok (.ireturn, 1)) (hz : nar t z = z) {fs : List Frame} (hl : ∀ (f : JFrame) (acts : List Action), f.method = m → f.locked = none → f.entered = [] → (doReturn e (T.setTop f) acts (some (.int z))).1 = T.setFrames fs) :
    Steps p.tables e below (T.setTop (mkF m pc Ls (.int z :: rest))) (T.setFrames fs) :=
  retN X hx hret ht hd (by rw [hz]; exact hl)
end OwnRet
theorem own_keep_eq {h h' : Heap} {ws : List Addr} (e : h' = h) : Keep h h' ws := by subst e; exact Keep.refl _ _
abbrev own_rem (x y : Int32) : Int32 := x % y
theorem own_irem {tb : Tables} [Ours tb] {e : Env} {below : List Frame} {T target : State} {m : MethodId} {c : Code} {g : JFrame} (h : At T m c below) (hx : tb.exec = Jvm.exec) (hg : g.method = m) {x y : Int32} {rest : List Value} (hd : decode c.code g.pc = .ok (.irem, 1)) (hs : g.stack = .int y :: .int x :: rest) (hy : y ≠ 0)
    (hr : Steps tb e below (T.setTop { g with pc := g.pc + 1, stack := .int (own_rem x y) :: rest }) target) : Steps tb e below (T.setTop g) target :=
  XS.irem h hx hg hd hs hy (by rw [Jvm.irem_eq_mod]; exact hr)
theorem own_stand_le {p : Program} {l : Launch} {e : Env} {R : Room} {s : State} {m : MethodId} {args : Array Value} {below : List Frame} {meth : Method} {c : Code} {T : State} {locs : List Loc} {cells slots cells' slots' : Nat} (X : Stand p l e R s m args below meth c T locs cells slots) (h1 : cells ≤ cells') (h2 : slots ≤ slots') : Stand p l e R s m args below meth c T locs cells' slots' :=
  { X with same := X.same.mono h1 h2 }
theorem own_sta_keep {Z : State} {h h' : Heap} {C n d : String} {v : Value} (S : Sta Z h C n d v) (K : Keep h h' []) : Sta Z h' C n d v := by
  obtain ⟨cf, i, k, f, st, cell, h1, h2, h3, h4, h5, h6, h7⟩ := S
  exact ⟨cf, i, k, f, st, cell, h1, h2, h3, h4, K.2.1 _ _ h5 List.not_mem_nil, h6, h7⟩
theorem d1_0 : decode prog_132_method_14_code 0 = .ok (.aload_n 0, 1) := by decide +kernel
theorem d1_1 : decode prog_132_method_14_code 1 = .ok (.getstatic 19, 3) := by decide +kernel
theorem d1_4 : decode prog_132_method_14_code 4 = .ok (.if_acmp .ne 44, 3) := by decide +kernel
theorem d1_7 : decode prog_132_method_14_code 7 = .ok (.lconst 0, 1) := by decide +kernel
theorem d1_8 : decode prog_132_method_14_code 8 = .ok (.lstore 4, 2) := by decide +kernel
theorem d1_10 : decode prog_132_method_14_code 10 = .ok (.iload_n 2, 1) := by decide +kernel
theorem d1_11 : decode prog_132_method_14_code 11 = .ok (.istore 6, 2) := by decide +kernel
theorem d1_13 : decode prog_132_method_14_code 13 = .ok (.iload 6, 2) := by decide +kernel
theorem d1_15 : decode prog_132_method_14_code 15 = .ok (.iload_n 3, 1) := by decide +kernel
theorem d1_16 : decode prog_132_method_14_code 16 = .ok (.if_icmp .ge 29, 3) := by decide +kernel
theorem d1_45 : decode prog_132_method_14_code 45 = .ok (.goto 9, 3) := by decide +kernel
theorem d1_54 : decode prog_132_method_14_code 54 = .ok (.lload 4, 2) := by decide +kernel
theorem d1_56 : decode prog_132_method_14_code 56 = .ok (.lreturn, 1) := by decide +kernel
theorem pn_1 : plainName "com/example/olm/olm/siard/CellType" = true := by first | (simp [plainName, overriddenIn]; done) | decide +kernel
theorem ef_1 (m : MethodId) (x0 : Addr) (x1 : Addr) (x2 : Int32) (x3 : Int32) : entryFrame m #[(.ref x0), (.ref x1), (.int x2), (.int x3)] 7 = mkF m 0 #[.val (.ref x0), .val (.ref x1), .val (.int x2), .val (.int x3), .unset, .unset, .unset] [] := by first | (simp [entryFrame, mkF, argsToLocals, Value.category]; done) | rfl
theorem d1_48 : decode prog_132_method_14_code 48 = .ok (.iload_n 3, 1) := by decide +kernel
theorem d1_49 : decode prog_132_method_14_code 49 = .ok (.iload_n 2, 1) := by decide +kernel
theorem d1_50 : decode prog_132_method_14_code 50 = .ok (.isub, 1) := by decide +kernel
theorem d1_51 : decode prog_132_method_14_code 51 = .ok (.i2l, 1) := by decide +kernel
theorem d1_52 : decode prog_132_method_14_code 52 = .ok (.lstore 4, 2) := by decide +kernel
theorem d2_0 : decode method_3_code 0 = .ok (.iload_n 1, 1) := by decide +kernel
theorem d2_1 : decode method_3_code 1 = .ok (.iload_n 2, 1) := by decide +kernel
theorem d2_2 : decode method_3_code 2 = .ok (.if_icmp .lt 8, 3) := by decide +kernel
theorem d2_10 : decode method_3_code 10 = .ok (.iconst 0, 1) := by decide +kernel
theorem d2_11 : decode method_3_code 11 = .ok (.ireturn, 1) := by decide +kernel
theorem pn_2 : plainName "com/example/olm/olm/siard/CellTypeLengthPinLaw" = true := by first | (simp [plainName, overriddenIn]; done) | decide +kernel
theorem ef_2 (m : MethodId) (x0 : Addr) (x1 : Int32) (x2 : Int32) (x3 : Int32) : entryFrame m #[(.ref x0), (.int x1), (.int x2), (.int x3)] 4 = mkF m 0 #[.val (.ref x0), .val (.int x1), .val (.int x2), .val (.int x3)] [] := by first | (simp [entryFrame, mkF, argsToLocals, Value.category]; done) | rfl
theorem d2_5 : decode method_3_code 5 = .ok (.iload_n 1, 1) := by decide +kernel
theorem d2_6 : decode method_3_code 6 = .ok (.iload_n 3, 1) := by decide +kernel
theorem d2_7 : decode method_3_code 7 = .ok (.if_icmp .lt 5, 3) := by decide +kernel
theorem d2_12 : decode method_3_code 12 = .ok (.aload_n 0, 1) := by decide +kernel
theorem d2_13 : decode method_3_code 13 = .ok (.iload_n 1, 1) := by decide +kernel
theorem d2_14 : decode method_3_code 14 = .ok (.baload, 1) := by decide +kernel
theorem d2_15 : decode method_3_code 15 = .ok (.bipush (-64), 2) := by decide +kernel
theorem d2_17 : decode method_3_code 17 = .ok (.if_icmp .lt 7, 3) := by decide +kernel
theorem d2_20 : decode method_3_code 20 = .ok (.iconst 1, 1) := by decide +kernel
theorem d2_21 : decode method_3_code 21 = .ok (.goto 4, 3) := by decide +kernel
theorem d2_24 : decode method_3_code 24 = .ok (.iconst 0, 1) := by decide +kernel
theorem d2_25 : decode method_3_code 25 = .ok (.ireturn, 1) := by decide +kernel
theorem d1_19 : decode prog_132_method_14_code 19 = .ok (.aload_n 1, 1) := by decide +kernel
theorem d1_20 : decode prog_132_method_14_code 20 = .ok (.iload 6, 2) := by decide +kernel
theorem d1_22 : decode prog_132_method_14_code 22 = .ok (.baload, 1) := by decide +kernel
theorem d1_23 : decode prog_132_method_14_code 23 = .ok (.sipush 192, 3) := by decide +kernel
theorem d1_26 : decode prog_132_method_14_code 26 = .ok (.iand, 1) := by decide +kernel
theorem d1_27 : decode prog_132_method_14_code 27 = .ok (.sipush 128, 3) := by decide +kernel
theorem d1_30 : decode prog_132_method_14_code 30 = .ok (.if_icmp .eq 9, 3) := by decide +kernel
theorem d1_39 : decode prog_132_method_14_code 39 = .ok (.iinc 6 1, 3) := by decide +kernel
theorem d1_42 : decode prog_132_method_14_code 42 = .ok (.goto (-29), 3) := by decide +kernel
theorem d1_33 : decode prog_132_method_14_code 33 = .ok (.lload 4, 2) := by decide +kernel
theorem d1_35 : decode prog_132_method_14_code 35 = .ok (.lconst 1, 1) := by decide +kernel
theorem d1_36 : decode prog_132_method_14_code 36 = .ok (.ladd, 1) := by decide +kernel
theorem d1_37 : decode prog_132_method_14_code 37 = .ok (.lstore 4, 2) := by decide +kernel
theorem pn_0 : plainName "com/example/olm/olm/siard/CellTypeLengthPinLaw" = true := by first | (simp [plainName, overriddenIn]; done) | decide +kernel
theorem pd_0_0 : parseMethodDescriptor "([BII)J" = some ⟨[(.array .byte), .int, .int], some .long⟩ := by decide +kernel
theorem ef_0 (m : MethodId) (x0 : Int32) (x1 : Int64) (x2 : Int32) (x3 : Int32) : entryFrame m #[(.int x0), (.long x1), (.int x2), (.int x3)] maxLocals = mkF m 0 #[.val (.int x0), .val (.long x1), .second, .val (.int x2), .val (.int x3), .unset, .unset, .unset, .unset, .unset, .unset, .unset] [] := by first | (simp [entryFrame, mkF, argsToLocals, Value.category, maxLocals]; done) | rfl
theorem os0_4 {s0 : Slot} {z1 : Value} {s3 : Slot} {s4 : Slot} {s5 : Slot} {s6 : Slot} {s7 : Slot} {s8 : Slot} {s9 : Slot} {s10 : Slot} {s11 : Slot} {v : Addr} (h : One s5) : storeLocals #[s0, .val z1, .second, s3, s4, s5, s6, s7, s8, s9, s10, s11] 5 (.ref v) = some #[s0, .val z1, .second, s3, s4, .val (.ref v), s6, s7, s8, s9, s10, s11] := by
  rcases h with rfl | ⟨w, rfl, hw⟩
  · rfl
  · cases w <;> first | rfl | (simp [Value.category] at hw)
theorem os0_92 {s0 : Slot} {s1 : Slot} {s2 : Slot} {z3 : Value} {z4 : Value} {s5 : Slot} {s6 : Slot} {s7 : Slot} {s8 : Slot} {s9 : Slot} {s10 : Slot} {s11 : Slot} {v : Int32} (h : One s6) : storeLocals #[s0, s1, s2, .val z3, .val z4, s5, s6, s7, s8, s9, s10, s11] 6 (.int v) = some #[s0, s1, s2, .val z3, .val z4, s5, .val (.int v), s7, s8, s9, s10, s11] := by
  rcases h with rfl | ⟨w, rfl, hw⟩
  · rfl
  · cases w <;> first | rfl | (simp [Value.category] at hw)
theorem os0_108 {s0 : Slot} {s1 : Slot} {s2 : Slot} {z3 : Value} {z4 : Value} {s5 : Slot} {z6 : Value} {s7 : Slot} {s8 : Slot} {s9 : Slot} {s10 : Slot} {s11 : Slot} {v : Int32} (h : One s7) : storeLocals #[s0, s1, s2, .val z3, .val z4, s5, .val z6, s7, s8, s9, s10, s11] 7 (.int v) = some #[s0, s1, s2, .val z3, .val z4, s5, .val z6, .val (.int v), s8, s9, s10, s11] := by
  rcases h with rfl | ⟨w, rfl, hw⟩
  · rfl
  · cases w <;> first | rfl | (simp [Value.category] at hw)
theorem os0_121 {z0 : Value} {s1 : Slot} {s2 : Slot} {s3 : Slot} {s4 : Slot} {s5 : Slot} {s6 : Slot} {s7 : Slot} {s8 : Slot} {s9 : Slot} {s10 : Slot} {s11 : Slot} {v : Int32} (h : One s8) : storeLocals #[.val z0, s1, s2, s3, s4, s5, s6, s7, s8, s9, s10, s11] 8 (.int v) = some #[.val z0, s1, s2, s3, s4, s5, s6, s7, .val (.int v), s9, s10, s11] := by
  rcases h with rfl | ⟨w, rfl, hw⟩
  · rfl
  · cases w <;> first | rfl | (simp [Value.category] at hw)
theorem os0_137 {z0 : Value} {s1 : Slot} {s2 : Slot} {s3 : Slot} {s4 : Slot} {s5 : Slot} {s6 : Slot} {s7 : Slot} {z8 : Value} {s9 : Slot} {s10 : Slot} {s11 : Slot} {v : Addr} (h : One s9) : storeLocals #[.val z0, s1, s2, s3, s4, s5, s6, s7, .val z8, s9, s10, s11] 9 (.ref v) = some #[.val z0, s1, s2, s3, s4, s5, s6, s7, .val z8, .val (.ref v), s10, s11] := by
  rcases h with rfl | ⟨w, rfl, hw⟩
  · rfl
  · cases w <;> first | rfl | (simp [Value.category] at hw)
theorem pd_0_1 : parseMethodDescriptor "([BIII)I" = some ⟨[(.array .byte), .int, .int, .int], some .int⟩ := by decide +kernel
theorem own_i32 {i : Nat} (h : i ≤ 255) : (Int32.ofNat i).toInt = i := Int32.toInt_ofNat_small (by omega)
theorem own_n32 {i : Nat} (h : i ≤ 255) : (Int32.ofNat i).toNatClampNeg = i := by
  show (Int32.ofNat i).toInt.toNat = i
  rw [own_i32 h]; rfl
theorem own_nn {i : Nat} (h : i ≤ 255) : ¬ Int32.ofNat i < 0 := by
  rw [Int32.lt_iff_toInt_lt, own_i32 h]
  have : (0 : Int32).toInt = 0 := rfl
  omega
theorem own_lt_iff {i n : Nat} (hi : i ≤ 255) (hn : n ≤ 255) : Int32.ofNat i < Int32.ofNat n ↔ i < n := by
  rw [Int32.lt_iff_toInt_lt, own_i32 hn, own_i32 hi]; omega
theorem own_one (i : Nat) : Int32.ofNat i + (1 : Int32) = Int32.ofNat (i + 1) := (Int32.ofNat_succ i)
theorem own_onel (i : Nat) : Int64.ofNat i + (1 : Int64) = Int64.ofNat (i + 1) := (Int64.ofNat_add i 1).symm
theorem own_get (ls : List Int32) (i : Nat) : (ls.map Value.int).getD i (.int 0) = .int (ls.getD i 0) := by
  rw [List.getD_eq_getElem?_getD, List.getElem?_map, List.getD_eq_getElem?_getD]
  cases ls[i]? <;> rfl
/-- a byte that begins a character -/
def own_c (x : Int32) : Nat := if x < (-64 : Int32) then 0 else 1
theorem own_bits : ∀ k : Fin 256, ((Int32.ofInt ((k.val : Int) - 128)) &&& (192 : Int32) = (128 : Int32)) ↔ (Int32.ofInt ((k.val : Int) - 128)) < (-64 : Int32) := by decide +kernel
theorem own_bit (x : Int32) (h : -128 ≤ x.toInt ∧ x.toInt < 128) : (x &&& (192 : Int32)) = (128 : Int32) ↔ x < (-64 : Int32) := by
  have e : x = Int32.ofInt (((x.toInt + 128).toNat : Int) - 128) := by
    have : (((x.toInt + 128).toNat : Int) - 128) = x.toInt := by omega
    rw [this, Int32.ofInt_toInt]
  have q := own_bits ⟨(x.toInt + 128).toNat, by omega⟩
  rw [← e] at q
  exact q
/-- what starts(b, i, from, to) answers -/
def own_s (xs : List Int32) (i f t : Nat) : Nat := if i < f then 0 else if i < t then own_c (xs.getD i 0) else 0
/-- of the k bytes from place i on -/
def own_cnt (xs : List Int32) : Nat → Nat → Nat
  | _, 0 => 0
  | i, k + 1 => own_c (xs.getD i 0) + own_cnt xs (i + 1) k
theorem own_c1 (x : Int32) : own_c x ≤ 1 := by unfold own_c; split <;> omega
theorem own_s1 (xs : List Int32) (i f t : Nat) : own_s xs i f t ≤ 1 := by
  unfold own_s; have := own_c1 (xs.getD i 0); split
  · omega
  · split <;> omega
theorem own_sum (xs : List Int32) (f t : Nat) (h1 : f ≤ t) (h2 : t ≤ 8) : own_s xs 0 f t + own_s xs 1 f t + own_s xs 2 f t + own_s xs 3 f t + own_s xs 4 f t + own_s xs 5 f t + own_s xs 6 f t + own_s xs 7 f t = own_cnt xs f (t - f) := by
  obtain rfl | rfl | rfl | rfl | rfl | rfl | rfl | rfl | rfl : t = 0 ∨ t = 1 ∨ t = 2 ∨ t = 3 ∨ t = 4 ∨ t = 5 ∨ t = 6 ∨ t = 7 ∨ t = 8 := by omega
  all_goals
    obtain rfl | rfl | rfl | rfl | rfl | rfl | rfl | rfl | rfl : f = 0 ∨ f = 1 ∨ f = 2 ∨ f = 3 ∨ f = 4 ∨ f = 5 ∨ f = 6 ∨ f = 7 ∨ f = 8 := by omega
    all_goals first | (exfalso; omega) | (simp only [own_s, own_cnt, Nat.reduceLT, Nat.reduceSub, Nat.reduceAdd, if_true, if_false, ↓reduceIte, Nat.not_lt_zero]; done) | (simp only [own_s, own_cnt, Nat.reduceLT, Nat.reduceSub, Nat.reduceAdd, if_true, if_false, ↓reduceIte, Nat.not_lt_zero]; omega)
theorem own_add (a b : Nat) : Int32.ofNat a + Int32.ofNat b = Int32.ofNat (a + b) := (Int32.ofNat_add a b).symm
theorem own_long (n : Nat) (h : n ≤ 255) : (Int32.ofNat n).toInt64 = Int64.ofNat n := by
  apply Int64.toInt_inj.mp
  rw [Int32.toInt_toInt64, own_i32 h, Int64.toInt_ofNat_of_lt (by omega)]
theorem own_total (xs : List Int32) (f t : Nat) (h1 : f ≤ t) (h2 : t ≤ 8) : (((((((Int32.ofNat (own_s xs 0 f t) + Int32.ofNat (own_s xs 1 f t)) + Int32.ofNat (own_s xs 2 f t)) + Int32.ofNat (own_s xs 3 f t)) + Int32.ofNat (own_s xs 4 f t)) + Int32.ofNat (own_s xs 5 f t)) + Int32.ofNat (own_s xs 6 f t)) + Int32.ofNat (own_s xs 7 f t)).toInt64 = Int64.ofNat (own_cnt xs f (t - f)) := by
  simp only [own_add]
  have hb : own_s xs 0 f t + own_s xs 1 f t + own_s xs 2 f t + own_s xs 3 f t + own_s xs 4 f t + own_s xs 5 f t + own_s xs 6 f t + own_s xs 7 f t ≤ 255 := by
    have := own_s1 xs 0 f t; have := own_s1 xs 1 f t; have := own_s1 xs 2 f t; have := own_s1 xs 3 f t; have := own_s1 xs 4 f t; have := own_s1 xs 5 f t; have := own_s1 xs 6 f t; have := own_s1 xs 7 f t
    omega
  rw [own_long _ hb, own_sum xs f t h1 h2]
theorem own_from (a : Int32) : ∃ n : Nat, n ≤ 8 ∧ own_rem (a &&& (2147483647 : Int32)) (9 : Int32) = Int32.ofNat n := by
  have h1 := c_mask a 2147483647 31 (by decide) (by decide)
  have h2 := (c_irem (a &&& (2147483647 : Int32)) 9 9 (by decide)).1 (by omega)
  refine ⟨(own_rem (a &&& (2147483647 : Int32)) (9 : Int32)).toInt.toNat, ?_, ?_⟩
  · simp only [own_rem]; omega
  · apply Int32.toInt_inj.mp
    rw [Int32.toInt_ofNat_small (by simp only [own_rem]; omega)]
    simp only [own_rem]; omega
theorem own_nine (n : Nat) (h : n ≤ 8) : ((9 : Int32) - Int32.ofNat n).toInt = 9 - n := by
  have h3 := c_isub (9 : Int32) (Int32.ofNat n)
  have h4 := rng32 ((9 : Int32) - Int32.ofNat n)
  have h5 : (9 : Int32).toInt = 9 := by decide
  have h6 := own_i32 (i := n) (by omega)
  omega
theorem own_to (b : Int32) (n : Nat) (h : n ≤ 8) : ∃ t : Nat, n ≤ t ∧ t ≤ 8 ∧ Int32.ofNat n + own_rem (b &&& (2147483647 : Int32)) ((9 : Int32) - Int32.ofNat n) = Int32.ofNat t := by
  have h1 := c_mask b 2147483647 31 (by decide) (by decide)
  have h0 := own_nine n h
  generalize (9 : Int32) - Int32.ofNat n = d at *
  have h2 := (c_iremV (b &&& (2147483647 : Int32)) d).1 (by omega) (by omega)
  have h3 := c_iadd (Int32.ofNat n) (own_rem (b &&& (2147483647 : Int32)) d)
  have h4 := rng32 (Int32.ofNat n + own_rem (b &&& (2147483647 : Int32)) d)
  have h6 := own_i32 (i := n) (by omega)
  simp only [own_rem] at *
  refine ⟨(Int32.ofNat n + (b &&& (2147483647 : Int32)) % d).toInt.toNat, by omega, by omega, ?_⟩
  apply Int32.toInt_inj.mp
  rw [Int32.toInt_ofNat_small (by omega)]
  omega
theorem own_byte (y : Int32) : -128 ≤ (nar .byte y).toInt ∧ (nar .byte y).toInt < 128 := (c_i2b y).2
def Q2 (Z : State) (w : Int32) (h0 : Heap) (n0 : Nat) (v : Option Value) (h : Heap) (L : List Loc) : Prop := v = some (.int w) ∧ Fr n0 L ∧ h = h0
set_option maxRecDepth 65536 in
set_option maxHeartbeats 40000000 in
theorem rm2_t (l : Launch) (Z : State) (a0 : Array Value) (hw : ∀ d ∈ tables_1, d.before a0 Z = true) (ws : List Jvm.Cond) (a1 : Addr) (p2 : Int32) (p3 : Int32) (p4 : Int32) (h0 : Heap) (n0 : Nat) (Z0 : n0 ≤ h0.size) (hc2 : p2 < p3) :
    MetFree l (⟨"com/example/olm/olm/siard/CellTypeLengthPinLaw", "starts", "([BIII)I"⟩ : MethodName) (head1 (Jvm.Cond.code (⟨"com/example/olm/olm/siard/CellTypeLengthPinLaw", "starts", "([BIII)I"⟩ : MethodName) method_3_code 4 (some .int) :: ws) ({ frames := 0, cells := 0, slots := 0, locals := 0 } : Room)) (fun a U => a = #[(.ref a1), (.int p2), (.int p3), (.int p4)] ∧ Z.Warmed39 U.vm ∧ U.heap = h0) (fun _ _ _ _ _ => True) (fun _ U o U' => ∃ v L, o = .returned v ∧ Q2 Z (0 : Int32) h0 n0 v U'.heap L ∧ FrameEnd U o U' L ({ frames := 0, cells := 0, slots := 0, locals := 0 } : Room).cells ({ frames := 0, cells := 0, slots := 0, locals := 0 } : Room).slots) := by
  refine MetFree.of_bodySF (plainFor_of_name pn_2) hisR ?_
  intro p e s m args below meth c s₁ Bd hml0 hP hK
  obtain ⟨rfl, hZ, hh⟩ := hP
  have hx := Bd.exec
  have hby := Bd.bytes
  have hml : c.maxLocals = 4 := hml0
  have hown : s.vm.findClass "com/example/olm/olm/siard/CellTypeLengthPinLaw" = some m.cls := findClass_of_methodNamed Bd.named
  have hnm := (name_of_methodNamed Bd.named Bd.method).1
  have X0 : Stand p l e ({ frames := 0, cells := 0, slots := 0, locals := 0 } : Room) s m #[(.ref a1), (.int p2), (.int p3), (.int p4)] below meth c s₁ [] 0 0 := Stand.of_body Bd
  have e0 : s₁.heap = h0 := by rw [← hh, Bd.state]; rfl
  have N0 := Fr.nil n0
  have pre0 : ∀ t, Steps p.tables e below (s₁.setTop (mkF m 0 #[.val (.ref a1), .val (.int p2), .val (.int p3), .val (.int p4)] [])) t → Steps p.tables e below (s₁.setTop (entryFrame m #[(.ref a1), (.int p2), (.int p3), (.int p4)] 4)) t := fun t k => castTop (ef_2 m a1 p2 p3 p4) k

  obtain ⟨fs, hr, hrun, hended, hW, hsame⟩ := X0.leave (v := some (.int (0 : Int32))) (fun h => by rw [Bd.returns] at h; cases h)
  refine ⟨_, _, pre0 _ ?_, hrun, hended, _, _, rfl, ?_, ⟨_, rfl⟩, hW, hsame.mono (by decide) (by decide)⟩
  · show Steps p.tables e below (s₁.setTop (mkF m 0 #[.val (.ref a1), .val (.int p2), .val (.int p3), .val (.int p4)] [])) _
    refine XS.iloadN X0.here hx rfl (hb hby d2_0) rfl ?_
    show Steps p.tables e below (s₁.setTop (mkF m 1 #[.val (.ref a1), .val (.int p2), .val (.int p3), .val (.int p4)] [(.int p2)])) _
    refine XS.iloadN X0.here hx rfl (hb hby d2_1) rfl ?_
    show Steps p.tables e below (s₁.setTop (mkF m 2 #[.val (.ref a1), .val (.int p2), .val (.int p3), .val (.int p4)] [(.int p3), (.int p2)])) _
    refine XS.icmpYes X0.here hx rfl (pc0 := 2) (pc' := 10) rfl (hb hby d2_2) rfl (tlt hc2).1 (by decide) (by decide) ?_
    show Steps p.tables e below (s₁.setTop (mkF m 10 #[.val (.ref a1), .val (.int p2), .val (.int p3), .val (.int p4)] [])) _
    refine XS.iconst X0.here hx rfl (hb hby d2_10) ?_
    show Steps p.tables e below (s₁.setTop (mkF m 11 #[.val (.ref a1), .val (.int p2), .val (.int p3), .val (.int p4)] [(.int (0 : Int32))])) _
    exact retI X0 hx Bd.returns (hb hby d2_11) hr      -- retI stands in the head ('lawwalk <made dir>' prints it)
  · show Q2 Z (0 : Int32) h0 n0 _ s₁.heap _
    rw [e0]
    exact ⟨rfl, N0, rfl⟩

set_option maxRecDepth 65536 in
set_option maxHeartbeats 40000000 in
theorem rm2_ftb (l : Launch) (Z : State) (a0 : Array Value) (hw : ∀ d ∈ tables_1, d.before a0 Z = true) (ws : List Jvm.Cond) (a1 : Addr) (p2 : Int32) (p3 : Int32) (p4 : Int32) (w5 : Int32) (cl_a1 : Cell) (h0 : Heap) (n0 : Nat) (Z0 : n0 ≤ h0.size) (Ar_a1 : Arr Z h0 a1 cl_a1 .byte) (hin14 : ¬ (p2 < 0 ∨ cl_a1.slots.size ≤ (p2).toNatClampNeg)) (hat14 : cl_a1.slots[(p2).toNatClampNeg]? = some (.int w5)) (hc2 : ¬ (p2 < p3)) (hc7 : p2 < p4) :
    MetFree l (⟨"com/example/olm/olm/siard/CellTypeLengthPinLaw", "starts", "([BIII)I"⟩ : MethodName) (head1 (Jvm.Cond.code (⟨"com/example/olm/olm/siard/CellTypeLengthPinLaw", "starts", "([BIII)I"⟩ : MethodName) method_3_code 4 (some .int) :: ws) ({ frames := 0, cells := 0, slots := 0, locals := 0 } : Room)) (fun a U => a = #[(.ref a1), (.int p2), (.int p3), (.int p4)] ∧ Z.Warmed39 U.vm ∧ U.heap = h0) (fun _ _ _ _ _ => True) (fun _ U o U' => ∃ v L, o = .returned v ∧ Q2 Z (own_sel (if_icmp.holds .lt w5 (-64 : Int32)) (0 : Int32) (1 : Int32)) h0 n0 v U'.heap L ∧ FrameEnd U o U' L ({ frames := 0, cells := 0, slots := 0, locals := 0 } : Room).cells ({ frames := 0, cells := 0, slots := 0, locals := 0 } : Room).slots) := by
  refine MetFree.of_bodySF (plainFor_of_name pn_2) hisR ?_
  intro p e s m args below meth c s₁ Bd hml0 hP hK
  obtain ⟨rfl, hZ, hh⟩ := hP
  have hx := Bd.exec
  have hby := Bd.bytes
  have hml : c.maxLocals = 4 := hml0
  have hown : s.vm.findClass "com/example/olm/olm/siard/CellTypeLengthPinLaw" = some m.cls := findClass_of_methodNamed Bd.named
  have hnm := (name_of_methodNamed Bd.named Bd.method).1
  have X0 : Stand p l e ({ frames := 0, cells := 0, slots := 0, locals := 0 } : Room) s m #[(.ref a1), (.int p2), (.int p3), (.int p4)] below meth c s₁ [] 0 0 := Stand.of_body Bd
  have e0 : s₁.heap = h0 := by rw [← hh, Bd.state]; rfl
  have N0 := Fr.nil n0
  have pre0 : ∀ t, Steps p.tables e below (s₁.setTop (mkF m 0 #[.val (.ref a1), .val (.int p2), .val (.int p3), .val (.int p4)] [])) t → Steps p.tables e below (s₁.setTop (entryFrame m #[(.ref a1), (.int p2), (.int p3), (.int p4)] 4)) t := fun t k => castTop (ef_2 m a1 p2 p3 p4) k

  obtain ⟨fs, hr, hrun, hended, hW, hsame⟩ := X0.leave (v := some (.int (own_sel (if_icmp.holds .lt w5 (-64 : Int32)) (0 : Int32) (1 : Int32)))) (fun h => by rw [Bd.returns] at h; cases h)
  refine ⟨_, _, pre0 _ ?_, hrun, hended, _, _, rfl, ?_, ⟨_, rfl⟩, hW, hsame.mono (by decide) (by decide)⟩
  · show Steps p.tables e below (s₁.setTop (mkF m 0 #[.val (.ref a1), .val (.int p2), .val (.int p3), .val (.int p4)] [])) _
    refine XS.iloadN X0.here hx rfl (hb hby d2_0) rfl ?_
    show Steps p.tables e below (s₁.setTop (mkF m 1 #[.val (.ref a1), .val (.int p2), .val (.int p3), .val (.int p4)] [(.int p2)])) _
    refine XS.iloadN X0.here hx rfl (hb hby d2_1) rfl ?_
    show Steps p.tables e below (s₁.setTop (mkF m 2 #[.val (.ref a1), .val (.int p2), .val (.int p3), .val (.int p4)] [(.int p3), (.int p2)])) _
    refine XS.icmpNo X0.here hx rfl (hb hby d2_2) rfl (flt hc2).1 ?_
    show Steps p.tables e below (s₁.setTop (mkF m 5 #[.val (.ref a1), .val (.int p2), .val (.int p3), .val (.int p4)] [])) _
    refine XS.iloadN X0.here hx rfl (hb hby d2_5) rfl ?_
    show Steps p.tables e below (s₁.setTop (mkF m 6 #[.val (.ref a1), .val (.int p2), .val (.int p3), .val (.int p4)] [(.int p2)])) _
    refine XS.iloadN X0.here hx rfl (hb hby d2_6) rfl ?_
    show Steps p.tables e below (s₁.setTop (mkF m 7 #[.val (.ref a1), .val (.int p2), .val (.int p3), .val (.int p4)] [(.int p4), (.int p2)])) _
    refine XS.icmpYes X0.here hx rfl (pc0 := 7) (pc' := 12) rfl (hb hby d2_7) rfl (tlt hc7).1 (by decide) (by decide) ?_
    show Steps p.tables e below (s₁.setTop (mkF m 12 #[.val (.ref a1), .val (.int p2), .val (.int p3), .val (.int p4)] [])) _
    refine XS.aloadN X0.here hx rfl (hb hby d2_12) rfl rfl ?_
    show Steps p.tables e below (s₁.setTop (mkF m 13 #[.val (.ref a1), .val (.int p2), .val (.int p3), .val (.int p4)] [(.ref a1)])) _
    refine XS.iloadN X0.here hx rfl (hb hby d2_13) rfl ?_
    show Steps p.tables e below (s₁.setTop (mkF m 14 #[.val (.ref a1), .val (.int p2), .val (.int p3), .val (.int p4)] [(.int p2), (.ref a1)])) _
    refine X0.baloadBytes hx (j := p2) (v := (.int w5)) (by rw [e0]; exact Ar_a1.1) (State.isArrayOf_alike hZ.alike Ar_a1.2.1) Ar_a1.2.2 hin14 hat14 (g := (mkF m 14 #[.val (.ref a1), .val (.int p2), .val (.int p3), .val (.int p4)] [(.int p2), (.ref a1)])) rfl rfl (hb hby d2_14) _ ?_
    show Steps p.tables e below (s₁.setTop (mkF m 15 #[.val (.ref a1), .val (.int p2), .val (.int p3), .val (.int p4)] [(.int w5)])) _
    refine XS.bipush X0.here hx rfl (hb hby d2_15) ?_
    show Steps p.tables e below (s₁.setTop (mkF m 17 #[.val (.ref a1), .val (.int p2), .val (.int p3), .val (.int p4)] [(.int (-64 : Int32)), (.int w5)])) _
    refine own_bicmp X0.here hx rfl (pc0 := 17) rfl (hb hby d2_17) (hb hby d2_20) (hb hby d2_21) (hb hby d2_24) rfl ?_
    show Steps p.tables e below (s₁.setTop (mkF m 25 #[.val (.ref a1), .val (.int p2), .val (.int p3), .val (.int p4)] [(.int (own_sel (if_icmp.holds .lt w5 (-64 : Int32)) (0 : Int32) (1 : Int32)))])) _
    exact retI X0 hx Bd.returns (hb hby d2_25) hr      -- retI stands in the head ('lawwalk <made dir>' prints it)
  · show Q2 Z (own_sel (if_icmp.holds .lt w5 (-64 : Int32)) (0 : Int32) (1 : Int32)) h0 n0 _ s₁.heap _
    rw [e0]
    exact ⟨rfl, N0, rfl⟩

set_option maxRecDepth 65536 in
set_option maxHeartbeats 40000000 in
theorem rm2_ff (l : Launch) (Z : State) (a0 : Array Value) (hw : ∀ d ∈ tables_1, d.before a0 Z = true) (ws : List Jvm.Cond) (a1 : Addr) (p2 : Int32) (p3 : Int32) (p4 : Int32) (h0 : Heap) (n0 : Nat) (Z0 : n0 ≤ h0.size) (hc2 : ¬ (p2 < p3)) (hc7 : ¬ (p2 < p4)) :
    MetFree l (⟨"com/example/olm/olm/siard/CellTypeLengthPinLaw", "starts", "([BIII)I"⟩ : MethodName) (head1 (Jvm.Cond.code (⟨"com/example/olm/olm/siard/CellTypeLengthPinLaw", "starts", "([BIII)I"⟩ : MethodName) method_3_code 4 (some .int) :: ws) ({ frames := 0, cells := 0, slots := 0, locals := 0 } : Room)) (fun a U => a = #[(.ref a1), (.int p2), (.int p3), (.int p4)] ∧ Z.Warmed39 U.vm ∧ U.heap = h0) (fun _ _ _ _ _ => True) (fun _ U o U' => ∃ v L, o = .returned v ∧ Q2 Z (0 : Int32) h0 n0 v U'.heap L ∧ FrameEnd U o U' L ({ frames := 0, cells := 0, slots := 0, locals := 0 } : Room).cells ({ frames := 0, cells := 0, slots := 0, locals := 0 } : Room).slots) := by
  refine MetFree.of_bodySF (plainFor_of_name pn_2) hisR ?_
  intro p e s m args below meth c s₁ Bd hml0 hP hK
  obtain ⟨rfl, hZ, hh⟩ := hP
  have hx := Bd.exec
  have hby := Bd.bytes
  have hml : c.maxLocals = 4 := hml0
  have hown : s.vm.findClass "com/example/olm/olm/siard/CellTypeLengthPinLaw" = some m.cls := findClass_of_methodNamed Bd.named
  have hnm := (name_of_methodNamed Bd.named Bd.method).1
  have X0 : Stand p l e ({ frames := 0, cells := 0, slots := 0, locals := 0 } : Room) s m #[(.ref a1), (.int p2), (.int p3), (.int p4)] below meth c s₁ [] 0 0 := Stand.of_body Bd
  have e0 : s₁.heap = h0 := by rw [← hh, Bd.state]; rfl
  have N0 := Fr.nil n0
  have pre0 : ∀ t, Steps p.tables e below (s₁.setTop (mkF m 0 #[.val (.ref a1), .val (.int p2), .val (.int p3), .val (.int p4)] [])) t → Steps p.tables e below (s₁.setTop (entryFrame m #[(.ref a1), (.int p2), (.int p3), (.int p4)] 4)) t := fun t k => castTop (ef_2 m a1 p2 p3 p4) k

  obtain ⟨fs, hr, hrun, hended, hW, hsame⟩ := X0.leave (v := some (.int (0 : Int32))) (fun h => by rw [Bd.returns] at h; cases h)
  refine ⟨_, _, pre0 _ ?_, hrun, hended, _, _, rfl, ?_, ⟨_, rfl⟩, hW, hsame.mono (by decide) (by decide)⟩
  · show Steps p.tables e below (s₁.setTop (mkF m 0 #[.val (.ref a1), .val (.int p2), .val (.int p3), .val (.int p4)] [])) _
    refine XS.iloadN X0.here hx rfl (hb hby d2_0) rfl ?_
    show Steps p.tables e below (s₁.setTop (mkF m 1 #[.val (.ref a1), .val (.int p2), .val (.int p3), .val (.int p4)] [(.int p2)])) _
    refine XS.iloadN X0.here hx rfl (hb hby d2_1) rfl ?_
    show Steps p.tables e below (s₁.setTop (mkF m 2 #[.val (.ref a1), .val (.int p2), .val (.int p3), .val (.int p4)] [(.int p3), (.int p2)])) _
    refine XS.icmpNo X0.here hx rfl (hb hby d2_2) rfl (flt hc2).1 ?_
    show Steps p.tables e below (s₁.setTop (mkF m 5 #[.val (.ref a1), .val (.int p2), .val (.int p3), .val (.int p4)] [])) _
    refine XS.iloadN X0.here hx rfl (hb hby d2_5) rfl ?_
    show Steps p.tables e below (s₁.setTop (mkF m 6 #[.val (.ref a1), .val (.int p2), .val (.int p3), .val (.int p4)] [(.int p2)])) _
    refine XS.iloadN X0.here hx rfl (hb hby d2_6) rfl ?_
    show Steps p.tables e below (s₁.setTop (mkF m 7 #[.val (.ref a1), .val (.int p2), .val (.int p3), .val (.int p4)] [(.int p4), (.int p2)])) _
    refine XS.icmpNo X0.here hx rfl (hb hby d2_7) rfl (flt hc7).1 ?_
    show Steps p.tables e below (s₁.setTop (mkF m 10 #[.val (.ref a1), .val (.int p2), .val (.int p3), .val (.int p4)] [])) _
    refine XS.iconst X0.here hx rfl (hb hby d2_10) ?_
    show Steps p.tables e below (s₁.setTop (mkF m 11 #[.val (.ref a1), .val (.int p2), .val (.int p3), .val (.int p4)] [(.int (0 : Int32))])) _
    exact retI X0 hx Bd.returns (hb hby d2_11) hr      -- retI stands in the head ('lawwalk <made dir>' prints it)
  · show Q2 Z (0 : Int32) h0 n0 _ s₁.heap _
    rw [e0]
    exact ⟨rfl, N0, rfl⟩

theorem rm2 (l : Launch) (Z : State) (a0 : Array Value) (hw : ∀ d ∈ tables_1, d.before a0 Z = true) (ws : List Jvm.Cond) (a1 : Addr) (kb : ClassId) (xs : List Int32) (i f t : Nat) (h0 : Heap) (n0 : Nat) (Z0 : n0 ≤ h0.size) (hi : i < 8) (hf : f ≤ 8) (ht : t ≤ 8) (V : Arv Z h0 a1 kb .byte (8 : Int32) (xs.map Value.int) (.int 0)) :
    MetFree l (⟨"com/example/olm/olm/siard/CellTypeLengthPinLaw", "starts", "([BIII)I"⟩ : MethodName) (head1 (Jvm.Cond.code (⟨"com/example/olm/olm/siard/CellTypeLengthPinLaw", "starts", "([BIII)I"⟩ : MethodName) method_3_code 4 (some .int) :: ws) ({ frames := 0, cells := 0, slots := 0, locals := 0 } : Room)) (fun a U => a = #[(.ref a1), (.int (Int32.ofNat i)), (.int (Int32.ofNat f)), (.int (Int32.ofNat t))] ∧ Z.Warmed39 U.vm ∧ U.heap = h0) (fun _ _ _ _ _ => True) (fun _ U o U' => ∃ v L, o = .returned v ∧ Q2 Z (Int32.ofNat (own_s xs i f t)) h0 n0 v U'.heap L ∧ FrameEnd U o U' L ({ frames := 0, cells := 0, slots := 0, locals := 0 } : Room).cells ({ frames := 0, cells := 0, slots := 0, locals := 0 } : Room).slots) := by
  unfold own_s
  by_cases h2 : i < f
  · rw [if_pos h2]
    exact rm2_t l Z a0 hw ws a1 (Int32.ofNat i) (Int32.ofNat f) (Int32.ofNat t) h0 n0 Z0 ((own_lt_iff (by omega) (by omega)).2 h2)
  · rw [if_neg h2]
    have n2 : ¬ Int32.ofNat i < Int32.ofNat f := fun q => h2 ((own_lt_iff (by omega) (by omega)).1 q)
    by_cases h7 : i < t
    · rw [if_pos h7]
      obtain ⟨cl, Ar, -, S, N, H, -⟩ := V
      have hin : ¬ (Int32.ofNat i < 0 ∨ cl.slots.size ≤ (Int32.ofNat i).toNatClampNeg) := inb_of S ⟨own_nn (by omega), (own_lt_iff (n := 8) (by omega) (by omega)).2 hi⟩
      have hat : cl.slots[(Int32.ofNat i).toNatClampNeg]? = some (.int (xs.getD i 0)) := Has.at H hin (by rw [own_n32 (by omega)]; exact own_get xs i)
      have q : own_sel (if_icmp.holds .lt (xs.getD i 0) (-64 : Int32)) (0 : Int32) (1 : Int32) = Int32.ofNat (own_c (xs.getD i 0)) := by
        unfold own_c
        by_cases hh : xs.getD i 0 < (-64 : Int32)
        · rw [if_pos hh, (tlt hh).1]; rfl
        · rw [if_neg hh, (flt hh).1]; rfl
      rw [← q]
      exact rm2_ftb l Z a0 hw ws a1 (Int32.ofNat i) (Int32.ofNat f) (Int32.ofNat t) (xs.getD i 0) cl h0 n0 Z0 Ar hin hat n2 ((own_lt_iff (by omega) (by omega)).2 h7)
    · rw [if_neg h7]
      exact rm2_ff l Z a0 hw ws a1 (Int32.ofNat i) (Int32.ofNat f) (Int32.ofNat t) h0 n0 Z0 n2 (fun q => h7 ((own_lt_iff (by omega) (by omega)).1 q))
set_option maxRecDepth 65536 in
set_option maxHeartbeats 40000000 in
theorem tn1_t {p : Program} {l : Launch} {e : Env} {R : Room} {s : State} {m : MethodId} {args : Array Value} {below : List Frame} {meth : Method} {c : Code} {T0 : State} {locs : List Loc} {cells slots : Nat} {Z : State} {a0 : Array Value} {h0 : Heap} (s0 : Slot) (o1 : Addr) (s2 : Slot) (i3 : Int32) (s4 : Slot) (s5 : Slot) (i6 : Int32) (w5 : Int32) (cl_o1 : Cell)
    (X0 : Stand p l e R s m args below meth c T0 locs cells slots) (hx : p.tables.exec = Jvm.exec) (hZ : Z.Warmed39 s.vm) (hw : ∀ d ∈ tables_1, d.before a0 Z = true) (hby : c.code = prog_132_method_14_code) (hml : c.maxLocals = 7) (hown : s.vm.findClass "com/example/olm/olm/siard/CellType" = some m.cls) (e0 : T0.heap = h0) (Ar_o1 : Arr Z h0 o1 cl_o1 .byte) (hin22 : ¬ (i6 < 0 ∨ cl_o1.slots.size ≤ (i6).toNatClampNeg)) (hat22 : cl_o1.slots[(i6).toNatClampNeg]? = some (.int w5)) (hc16 : i6 < i3) (hc30 : (w5 &&& (192 : Int32)) = (128 : Int32)) :
    ∃ (T' : State), Stand p l e R s m args below meth c T' locs cells slots ∧ T'.heap = h0 ∧
      ∀ target, Steps p.tables e below (T'.setTop (mkF m 13 #[s0, .val (.ref o1), s2, .val (.int i3), s4, s5, .val (.int (i6 + (1 : Int32)))] [])) target → Steps p.tables e below (T0.setTop (mkF m 13 #[s0, .val (.ref o1), s2, .val (.int i3), s4, s5, .val (.int i6)] [])) target := by

  refine ⟨T0, X0, e0, fun target kt => ?_⟩
  show Steps p.tables e below (T0.setTop (mkF m 13 #[s0, .val (.ref o1), s2, .val (.int i3), s4, s5, .val (.int i6)] [])) _
  refine XS.iload X0.here hx rfl (hb hby d1_13) rfl ?_
  show Steps p.tables e below (T0.setTop (mkF m 15 #[s0, .val (.ref o1), s2, .val (.int i3), s4, s5, .val (.int i6)] [(.int i6)])) _
  refine XS.iloadN X0.here hx rfl (hb hby d1_15) rfl ?_
  show Steps p.tables e below (T0.setTop (mkF m 16 #[s0, .val (.ref o1), s2, .val (.int i3), s4, s5, .val (.int i6)] [(.int i3), (.int i6)])) _
  refine XS.icmpNo X0.here hx rfl (hb hby d1_16) rfl (tlt hc16).2.1 ?_
  show Steps p.tables e below (T0.setTop (mkF m 19 #[s0, .val (.ref o1), s2, .val (.int i3), s4, s5, .val (.int i6)] [])) _
  refine XS.aloadN X0.here hx rfl (hb hby d1_19) rfl rfl ?_
  show Steps p.tables e below (T0.setTop (mkF m 20 #[s0, .val (.ref o1), s2, .val (.int i3), s4, s5, .val (.int i6)] [(.ref o1)])) _
  refine XS.iload X0.here hx rfl (hb hby d1_20) rfl ?_
  show Steps p.tables e below (T0.setTop (mkF m 22 #[s0, .val (.ref o1), s2, .val (.int i3), s4, s5, .val (.int i6)] [(.int i6), (.ref o1)])) _
  refine X0.baloadBytes hx (j := i6) (v := (.int w5)) (by rw [e0]; exact Ar_o1.1) (State.isArrayOf_alike hZ.alike Ar_o1.2.1) Ar_o1.2.2 hin22 hat22 (g := (mkF m 22 #[s0, .val (.ref o1), s2, .val (.int i3), s4, s5, .val (.int i6)] [(.int i6), (.ref o1)])) rfl rfl (hb hby d1_22) _ ?_
  show Steps p.tables e below (T0.setTop (mkF m 23 #[s0, .val (.ref o1), s2, .val (.int i3), s4, s5, .val (.int i6)] [(.int w5)])) _
  refine XS.sipush X0.here hx rfl (hb hby d1_23) ?_
  show Steps p.tables e below (T0.setTop (mkF m 26 #[s0, .val (.ref o1), s2, .val (.int i3), s4, s5, .val (.int i6)] [(.int (192 : Int32)), (.int w5)])) _
  refine XS.iand X0.here hx rfl (hb hby d1_26) rfl ?_
  show Steps p.tables e below (T0.setTop (mkF m 27 #[s0, .val (.ref o1), s2, .val (.int i3), s4, s5, .val (.int i6)] [(.int (w5 &&& (192 : Int32)))])) _
  refine XS.sipush X0.here hx rfl (hb hby d1_27) ?_
  show Steps p.tables e below (T0.setTop (mkF m 30 #[s0, .val (.ref o1), s2, .val (.int i3), s4, s5, .val (.int i6)] [(.int (128 : Int32)), (.int (w5 &&& (192 : Int32)))])) _
  refine XS.icmpYes X0.here hx rfl (pc0 := 30) (pc' := 39) rfl (hb hby d1_30) rfl (teq hc30).1 (by decide) (by decide) ?_
  show Steps p.tables e below (T0.setTop (mkF m 39 #[s0, .val (.ref o1), s2, .val (.int i3), s4, s5, .val (.int i6)] [])) _
  refine XS.iinc X0.here hx rfl (hb hby d1_39) rfl (l' := #[s0, .val (.ref o1), s2, .val (.int i3), s4, s5, .val (.int (i6 + (1 : Int32)))]) rfl ?_
  show Steps p.tables e below (T0.setTop (mkF m 42 #[s0, .val (.ref o1), s2, .val (.int i3), s4, s5, .val (.int (i6 + (1 : Int32)))] [])) _
  refine XS.goto X0.here hx rfl (pc0 := 42) (pc' := 13) rfl (hb hby d1_42) (by decide) (by decide) ?_
  exact kt

set_option maxRecDepth 65536 in
set_option maxHeartbeats 40000000 in
theorem tn1_f {p : Program} {l : Launch} {e : Env} {R : Room} {s : State} {m : MethodId} {args : Array Value} {below : List Frame} {meth : Method} {c : Code} {T0 : State} {locs : List Loc} {cells slots : Nat} {Z : State} {a0 : Array Value} {h0 : Heap} (s0 : Slot) (o1 : Addr) (s2 : Slot) (i3 : Int32) (j4 : Int64) (i6 : Int32) (w5 : Int32) (cl_o1 : Cell)
    (X0 : Stand p l e R s m args below meth c T0 locs cells slots) (hx : p.tables.exec = Jvm.exec) (hZ : Z.Warmed39 s.vm) (hw : ∀ d ∈ tables_1, d.before a0 Z = true) (hby : c.code = prog_132_method_14_code) (hml : c.maxLocals = 7) (hown : s.vm.findClass "com/example/olm/olm/siard/CellType" = some m.cls) (e0 : T0.heap = h0) (Ar_o1 : Arr Z h0 o1 cl_o1 .byte) (hin22 : ¬ (i6 < 0 ∨ cl_o1.slots.size ≤ (i6).toNatClampNeg)) (hat22 : cl_o1.slots[(i6).toNatClampNeg]? = some (.int w5)) (hc16 : i6 < i3) (hc30 : ¬ ((w5 &&& (192 : Int32)) = (128 : Int32))) :
    ∃ (T' : State), Stand p l e R s m args below meth c T' locs cells slots ∧ T'.heap = h0 ∧
      ∀ target, Steps p.tables e below (T'.setTop (mkF m 13 #[s0, .val (.ref o1), s2, .val (.int i3), .val (.long (j4 + (1 : Int64))), .second, .val (.int (i6 + (1 : Int32)))] [])) target → Steps p.tables e below (T0.setTop (mkF m 13 #[s0, .val (.ref o1), s2, .val (.int i3), .val (.long j4), .second, .val (.int i6)] [])) target := by

  refine ⟨T0, X0, e0, fun target kt => ?_⟩
  show Steps p.tables e below (T0.setTop (mkF m 13 #[s0, .val (.ref o1), s2, .val (.int i3), .val (.long j4), .second, .val (.int i6)] [])) _
  refine XS.iload X0.here hx rfl (hb hby d1_13) rfl ?_
  show Steps p.tables e below (T0.setTop (mkF m 15 #[s0, .val (.ref o1), s2, .val (.int i3), .val (.long j4), .second, .val (.int i6)] [(.int i6)])) _
  refine XS.iloadN X0.here hx rfl (hb hby d1_15) rfl ?_
  show Steps p.tables e below (T0.setTop (mkF m 16 #[s0, .val (.ref o1), s2, .val (.int i3), .val (.long j4), .second, .val (.int i6)] [(.int i3), (.int i6)])) _
  refine XS.icmpNo X0.here hx rfl (hb hby d1_16) rfl (tlt hc16).2.1 ?_
  show Steps p.tables e below (T0.setTop (mkF m 19 #[s0, .val (.ref o1), s2, .val (.int i3), .val (.long j4), .second, .val (.int i6)] [])) _
  refine XS.aloadN X0.here hx rfl (hb hby d1_19) rfl rfl ?_
  show Steps p.tables e below (T0.setTop (mkF m 20 #[s0, .val (.ref o1), s2, .val (.int i3), .val (.long j4), .second, .val (.int i6)] [(.ref o1)])) _
  refine XS.iload X0.here hx rfl (hb hby d1_20) rfl ?_
  show Steps p.tables e below (T0.setTop (mkF m 22 #[s0, .val (.ref o1), s2, .val (.int i3), .val (.long j4), .second, .val (.int i6)] [(.int i6), (.ref o1)])) _
  refine X0.baloadBytes hx (j := i6) (v := (.int w5)) (by rw [e0]; exact Ar_o1.1) (State.isArrayOf_alike hZ.alike Ar_o1.2.1) Ar_o1.2.2 hin22 hat22 (g := (mkF m 22 #[s0, .val (.ref o1), s2, .val (.int i3), .val (.long j4), .second, .val (.int i6)] [(.int i6), (.ref o1)])) rfl rfl (hb hby d1_22) _ ?_
  show Steps p.tables e below (T0.setTop (mkF m 23 #[s0, .val (.ref o1), s2, .val (.int i3), .val (.long j4), .second, .val (.int i6)] [(.int w5)])) _
  refine XS.sipush X0.here hx rfl (hb hby d1_23) ?_
  show Steps p.tables e below (T0.setTop (mkF m 26 #[s0, .val (.ref o1), s2, .val (.int i3), .val (.long j4), .second, .val (.int i6)] [(.int (192 : Int32)), (.int w5)])) _
  refine XS.iand X0.here hx rfl (hb hby d1_26) rfl ?_
  show Steps p.tables e below (T0.setTop (mkF m 27 #[s0, .val (.ref o1), s2, .val (.int i3), .val (.long j4), .second, .val (.int i6)] [(.int (w5 &&& (192 : Int32)))])) _
  refine XS.sipush X0.here hx rfl (hb hby d1_27) ?_
  show Steps p.tables e below (T0.setTop (mkF m 30 #[s0, .val (.ref o1), s2, .val (.int i3), .val (.long j4), .second, .val (.int i6)] [(.int (128 : Int32)), (.int (w5 &&& (192 : Int32)))])) _
  refine XS.icmpNo X0.here hx rfl (hb hby d1_30) rfl (feq hc30).1 ?_
  show Steps p.tables e below (T0.setTop (mkF m 33 #[s0, .val (.ref o1), s2, .val (.int i3), .val (.long j4), .second, .val (.int i6)] [])) _
  refine XS.lload X0.here hx rfl (hb hby d1_33) rfl ?_
  show Steps p.tables e below (T0.setTop (mkF m 35 #[s0, .val (.ref o1), s2, .val (.int i3), .val (.long j4), .second, .val (.int i6)] [(.long j4)])) _
  refine XS.lconst X0.here hx rfl (hb hby d1_35) ?_
  show Steps p.tables e below (T0.setTop (mkF m 36 #[s0, .val (.ref o1), s2, .val (.int i3), .val (.long j4), .second, .val (.int i6)] [(.long (1 : Int64)), (.long j4)])) _
  refine XS.ladd X0.here hx rfl (hb hby d1_36) rfl ?_
  show Steps p.tables e below (T0.setTop (mkF m 37 #[s0, .val (.ref o1), s2, .val (.int i3), .val (.long j4), .second, .val (.int i6)] [(.long (j4 + (1 : Int64)))])) _
  refine XS.lstore X0.here hx rfl (hb hby d1_37) rfl (l' := #[s0, .val (.ref o1), s2, .val (.int i3), .val (.long (j4 + (1 : Int64))), .second, .val (.int i6)]) rfl ?_
  show Steps p.tables e below (T0.setTop (mkF m 39 #[s0, .val (.ref o1), s2, .val (.int i3), .val (.long (j4 + (1 : Int64))), .second, .val (.int i6)] [])) _
  refine XS.iinc X0.here hx rfl (hb hby d1_39) rfl (l' := #[s0, .val (.ref o1), s2, .val (.int i3), .val (.long (j4 + (1 : Int64))), .second, .val (.int (i6 + (1 : Int32)))]) rfl ?_
  show Steps p.tables e below (T0.setTop (mkF m 42 #[s0, .val (.ref o1), s2, .val (.int i3), .val (.long (j4 + (1 : Int64))), .second, .val (.int (i6 + (1 : Int32)))] [])) _
  refine XS.goto X0.here hx rfl (pc0 := 42) (pc' := 13) rfl (hb hby d1_42) (by decide) (by decide) ?_
  exact kt

set_option maxRecDepth 65536 in
set_option maxHeartbeats 40000000 in
theorem tn1_13_45 {p : Program} {l : Launch} {e : Env} {R : Room} {s : State} {m : MethodId} {args : Array Value} {below : List Frame} {meth : Method} {c : Code} {T0 : State} {locs : List Loc} {cells slots : Nat} {Z : State} {a0 : Array Value} {h0 : Heap} (s0 : Slot) (s1 : Slot) (s2 : Slot) (i3 : Int32) (s4 : Slot) (s5 : Slot) (i6 : Int32)
    (X0 : Stand p l e R s m args below meth c T0 locs cells slots) (hx : p.tables.exec = Jvm.exec) (hZ : Z.Warmed39 s.vm) (hw : ∀ d ∈ tables_1, d.before a0 Z = true) (hby : c.code = prog_132_method_14_code) (hml : c.maxLocals = 7) (hown : s.vm.findClass "com/example/olm/olm/siard/CellType" = some m.cls) (e0 : T0.heap = h0) (hc16 : ¬ (i6 < i3)) :
    ∃ (T' : State), Stand p l e R s m args below meth c T' locs cells slots ∧ T'.heap = h0 ∧
      ∀ target, Steps p.tables e below (T'.setTop (mkF m 45 #[s0, s1, s2, .val (.int i3), s4, s5, .val (.int i6)] [])) target → Steps p.tables e below (T0.setTop (mkF m 13 #[s0, s1, s2, .val (.int i3), s4, s5, .val (.int i6)] [])) target := by

  refine ⟨T0, X0, e0, fun target kt => ?_⟩
  show Steps p.tables e below (T0.setTop (mkF m 13 #[s0, s1, s2, .val (.int i3), s4, s5, .val (.int i6)] [])) _
  refine XS.iload X0.here hx rfl (hb hby d1_13) rfl ?_
  show Steps p.tables e below (T0.setTop (mkF m 15 #[s0, s1, s2, .val (.int i3), s4, s5, .val (.int i6)] [(.int i6)])) _
  refine XS.iloadN X0.here hx rfl (hb hby d1_15) rfl ?_
  show Steps p.tables e below (T0.setTop (mkF m 16 #[s0, s1, s2, .val (.int i3), s4, s5, .val (.int i6)] [(.int i3), (.int i6)])) _
  refine XS.icmpYes X0.here hx rfl (pc0 := 16) (pc' := 45) rfl (hb hby d1_16) rfl (flt hc16).2.1 (by decide) (by decide) ?_
  exact kt

theorem loop1 {p : Program} {l : Launch} {e : Env} {R : Room} {s : State} {m : MethodId} {args : Array Value} {below : List Frame} {meth : Method} {c : Code} {locs : List Loc} {cells slots : Nat} {Z : State} {a0 : Array Value} {h0 : Heap} (s0 : Slot) (o1 : Addr) (s2 : Slot) (xs : List Int32) (t : Nat) (ht : t ≤ 8) (hxs : ∀ j, j < 8 → -128 ≤ (xs.getD j 0).toInt ∧ (xs.getD j 0).toInt < 128) (hx : p.tables.exec = Jvm.exec) (hZ : Z.Warmed39 s.vm) (hw : ∀ d ∈ tables_1, d.before a0 Z = true) (hby : c.code = prog_132_method_14_code) (hml : c.maxLocals = 7) (hown : s.vm.findClass "com/example/olm/olm/siard/CellType" = some m.cls)
    (cl : Cell) (Ar : Arr Z h0 o1 cl .byte) (Sz : cl.slots.size = (8 : Int32).toNatClampNeg) (H : Has cl (xs.map Value.int) (.int 0)) :
    ∀ (k i S : Nat) (T0 : State), i + k = t → Stand p l e R s m args below meth c T0 locs cells slots → T0.heap = h0 →
      ∃ (T' : State), Stand p l e R s m args below meth c T' locs cells slots ∧ T'.heap = h0 ∧
        ∀ target, Steps p.tables e below (T'.setTop (mkF m 45 #[s0, .val (.ref o1), s2, .val (.int (Int32.ofNat t)), .val (.long (Int64.ofNat (S + own_cnt xs i k))), .second, .val (.int (Int32.ofNat t))] [])) target → Steps p.tables e below (T0.setTop (mkF m 13 #[s0, .val (.ref o1), s2, .val (.int (Int32.ofNat t)), .val (.long (Int64.ofNat S)), .second, .val (.int (Int32.ofNat i))] [])) target := by
  intro k
  induction k with
  | zero =>
    intro i S T0 hi X0 e0
    have hi' : i = t := by omega
    subst hi'
    exact tn1_13_45 s0 (.val (.ref o1)) s2 (Int32.ofNat i) (.val (.long (Int64.ofNat S))) .second (Int32.ofNat i) X0 hx hZ hw hby hml hown e0 Int32.lt_irrefl
  | succ k ih =>
    intro i S T0 hi X0 e0
    have hlt : Int32.ofNat i < Int32.ofNat t := (own_lt_iff (by omega) (by omega)).2 (by omega)
    have hin : ¬ (Int32.ofNat i < 0 ∨ cl.slots.size ≤ (Int32.ofNat i).toNatClampNeg) := inb_of Sz ⟨own_nn (by omega), (own_lt_iff (n := 8) (by omega) (by omega)).2 (by omega)⟩
    have hat : cl.slots[(Int32.ofNat i).toNatClampNeg]? = some (.int (xs.getD i 0)) := Has.at H hin (by rw [own_n32 (by omega)]; exact own_get xs i)
    have hb8 := own_bit (xs.getD i 0) (hxs i (by omega))
    by_cases hc : ((xs.getD i 0) &&& (192 : Int32)) = (128 : Int32)
    · obtain ⟨T1, X1, e1, st1⟩ := tn1_t s0 o1 s2 (Int32.ofNat t) (.val (.long (Int64.ofNat S))) .second (Int32.ofNat i) (xs.getD i 0) cl X0 hx hZ hw hby hml hown e0 Ar hin hat hlt hc
      obtain ⟨T', X', e', st⟩ := ih (i + 1) S T1 (by omega) X1 e1
      have q : own_cnt xs i (k + 1) = own_cnt xs (i + 1) k := by
        show own_c (xs.getD i 0) + own_cnt xs (i + 1) k = _
        rw [own_c, if_pos (hb8.1 hc), Nat.zero_add]
      refine ⟨T', X', e', fun target h => st1 target ?_⟩
      rw [own_one]
      rw [q] at h
      exact st target h
    · obtain ⟨T1, X1, e1, st1⟩ := tn1_f s0 o1 s2 (Int32.ofNat t) (Int64.ofNat S) (Int32.ofNat i) (xs.getD i 0) cl X0 hx hZ hw hby hml hown e0 Ar hin hat hlt hc
      obtain ⟨T', X', e', st⟩ := ih (i + 1) (S + 1) T1 (by omega) X1 e1
      have q : S + own_cnt xs i (k + 1) = S + 1 + own_cnt xs (i + 1) k := by
        show S + (own_c (xs.getD i 0) + own_cnt xs (i + 1) k) = _
        rw [own_c, if_neg (fun r => hc (hb8.2 r)), Nat.add_assoc]
      refine ⟨T', X', e', fun target h => st1 target ?_⟩
      rw [own_one, own_onel]
      rw [q] at h
      exact st target h
def Q1 (Z : State) (w : Int64) (h0 : Heap) (n0 : Nat) (v : Option Value) (h : Heap) (L : List Loc) : Prop := v = some (.long w) ∧ Fr n0 L ∧ h = h0
set_option maxRecDepth 65536 in
set_option maxHeartbeats 40000000 in
theorem rm1_b (l : Launch) (Z : State) (a0 : Array Value) (hw : ∀ d ∈ tables_1, d.before a0 Z = true) (ws : List Jvm.Cond) (a1 : Addr) (a2 : Addr) (p3 : Int32) (p4 : Int32) (w5 : Addr) (h0 : Heap) (n0 : Nat) (Z0 : n0 ≤ h0.size) (S_CLOB : Sta Z h0 "com/example/olm/olm/siard/CellType" "CLOB" "Lcom/example/olm/olm/siard/CellType;" (.ref w5)) (ha4 : ¬ (a1 = w5)) :
    MetFree l (⟨"com/example/olm/olm/siard/CellType", "length", "([BII)J"⟩ : MethodName) (head1 (Jvm.Cond.code (⟨"com/example/olm/olm/siard/CellType", "length", "([BII)J"⟩ : MethodName) prog_132_method_14_code 7 (some .long) :: ws) ({ frames := 0, cells := 0, slots := 0, locals := 0 } : Room)) (fun a U => a = #[(.ref a1), (.ref a2), (.int p3), (.int p4)] ∧ Z.Warmed39 U.vm ∧ U.heap = h0) (fun _ _ _ _ _ => True) (fun _ U o U' => ∃ v L, o = .returned v ∧ Q1 Z ((p4 - p3).toInt64) h0 n0 v U'.heap L ∧ FrameEnd U o U' L ({ frames := 0, cells := 0, slots := 0, locals := 0 } : Room).cells ({ frames := 0, cells := 0, slots := 0, locals := 0 } : Room).slots) := by
  refine MetFree.of_bodySF (plainFor_of_name pn_1) hisR ?_
  intro p e s m args below meth c s₁ Bd hml0 hP hK
  obtain ⟨rfl, hZ, hh⟩ := hP
  have hx := Bd.exec
  have hby := Bd.bytes
  have hml : c.maxLocals = 7 := hml0
  have hown : s.vm.findClass "com/example/olm/olm/siard/CellType" = some m.cls := findClass_of_methodNamed Bd.named
  have hnm := (name_of_methodNamed Bd.named Bd.method).1
  have X0 : Stand p l e ({ frames := 0, cells := 0, slots := 0, locals := 0 } : Room) s m #[(.ref a1), (.ref a2), (.int p3), (.int p4)] below meth c s₁ [] 0 0 := Stand.of_body Bd
  have e0 : s₁.heap = h0 := by rw [← hh, Bd.state]; rfl
  have N0 := Fr.nil n0
  have pre0 : ∀ t, Steps p.tables e below (s₁.setTop (mkF m 0 #[.val (.ref a1), .val (.ref a2), .val (.int p3), .val (.int p4), .unset, .unset, .unset] [])) t → Steps p.tables e below (s₁.setTop (entryFrame m #[(.ref a1), (.ref a2), (.int p3), (.int p4)] 7)) t := fun t k => castTop (ef_1 m a1 a2 p3 p4) k
  obtain ⟨T6, X6, e6, st6⟩ := getS2 X0 hx hZ hown (host := "") (Or.inl (hw _ (List.mem_of_getElem? (i := 10) rfl))) Via.refl e0 S_CLOB (g := (mkF m 1 #[.val (.ref a1), .val (.ref a2), .val (.int p3), .val (.int p4), .unset, .unset, .unset] [(.ref a1)])) rfl (hb hby d1_1)
  obtain ⟨fs, hr, hrun, hended, hW, hsame⟩ := X6.leave (v := some (.long ((p4 - p3).toInt64))) (fun h => by rw [Bd.returns] at h; cases h)
  refine ⟨_, _, pre0 _ ?_, hrun, hended, _, _, rfl, ?_, ⟨_, rfl⟩, hW, hsame.mono (by decide) (by decide)⟩
  · show Steps p.tables e below (s₁.setTop (mkF m 0 #[.val (.ref a1), .val (.ref a2), .val (.int p3), .val (.int p4), .unset, .unset, .unset] [])) _
    refine XS.aloadN X0.here hx rfl (hb hby d1_0) rfl rfl ?_
    show Steps p.tables e below (s₁.setTop (mkF m 1 #[.val (.ref a1), .val (.ref a2), .val (.int p3), .val (.int p4), .unset, .unset, .unset] [(.ref a1)])) _
    refine st6 _ ?_
    show Steps p.tables e below (T6.setTop (mkF m 4 #[.val (.ref a1), .val (.ref a2), .val (.int p3), .val (.int p4), .unset, .unset, .unset] [(.ref w5), (.ref a1)])) _
    refine Jvm.RoadKit.acmp (g := (mkF m 4 #[.val (.ref a1), .val (.ref a2), .val (.int p3), .val (.int p4), .unset, .unset, .unset] [(.ref w5), (.ref a1)])) X6 hx rfl rfl rfl (pc0 := 4) (pc' := 48) (same := false) rfl (hb hby d1_4) rfl (decide_eq_false fun q => ha4 (Value.ref.inj q)) (by decide) (by decide) ?_
    show Steps p.tables e below (T6.setTop (mkF m 48 #[.val (.ref a1), .val (.ref a2), .val (.int p3), .val (.int p4), .unset, .unset, .unset] [])) _
    refine XS.iloadN X6.here hx rfl (hb hby d1_48) rfl ?_
    show Steps p.tables e below (T6.setTop (mkF m 49 #[.val (.ref a1), .val (.ref a2), .val (.int p3), .val (.int p4), .unset, .unset, .unset] [(.int p4)])) _
    refine XS.iloadN X6.here hx rfl (hb hby d1_49) rfl ?_
    show Steps p.tables e below (T6.setTop (mkF m 50 #[.val (.ref a1), .val (.ref a2), .val (.int p3), .val (.int p4), .unset, .unset, .unset] [(.int p3), (.int p4)])) _
    refine XS.isub X6.here hx rfl (hb hby d1_50) rfl ?_
    show Steps p.tables e below (T6.setTop (mkF m 51 #[.val (.ref a1), .val (.ref a2), .val (.int p3), .val (.int p4), .unset, .unset, .unset] [(.int (p4 - p3))])) _
    refine XS.i2l X6.here hx rfl (hb hby d1_51) rfl ?_
    show Steps p.tables e below (T6.setTop (mkF m 52 #[.val (.ref a1), .val (.ref a2), .val (.int p3), .val (.int p4), .unset, .unset, .unset] [(.long ((p4 - p3).toInt64))])) _
    refine XS.lstore X6.here hx rfl (hb hby d1_52) rfl (l' := #[.val (.ref a1), .val (.ref a2), .val (.int p3), .val (.int p4), .val (.long ((p4 - p3).toInt64)), .second, .unset]) rfl ?_
    show Steps p.tables e below (T6.setTop (mkF m 54 #[.val (.ref a1), .val (.ref a2), .val (.int p3), .val (.int p4), .val (.long ((p4 - p3).toInt64)), .second, .unset] [])) _
    refine XS.lload X6.here hx rfl (hb hby d1_54) rfl ?_
    show Steps p.tables e below (T6.setTop (mkF m 56 #[.val (.ref a1), .val (.ref a2), .val (.int p3), .val (.int p4), .val (.long ((p4 - p3).toInt64)), .second, .unset] [(.long ((p4 - p3).toInt64))])) _
    exact X6.lreturnOut hx Bd.returns (hb hby d1_56) hr
  · show Q1 Z ((p4 - p3).toInt64) h0 n0 _ T6.heap _
    rw [e6]
    exact ⟨rfl, N0, rfl⟩

set_option maxRecDepth 65536 in
set_option maxHeartbeats 40000000 in
theorem rm1_c (l : Launch) (Z : State) (a0 : Array Value) (hw : ∀ d ∈ tables_1, d.before a0 Z = true) (ws : List Jvm.Cond) (a1 : Addr) (a2 : Addr) (f t : Nat) (w5 : Addr) (kb : ClassId) (xs : List Int32) (h0 : Heap) (n0 : Nat) (Z0 : n0 ≤ h0.size) (S_CLOB : Sta Z h0 "com/example/olm/olm/siard/CellType" "CLOB" "Lcom/example/olm/olm/siard/CellType;" (.ref w5)) (ha4 : a1 = w5) (hft : f ≤ t) (ht : t ≤ 8) (hxs : ∀ j, j < 8 → -128 ≤ (xs.getD j 0).toInt ∧ (xs.getD j 0).toInt < 128) (V : Arv Z h0 a2 kb .byte (8 : Int32) (xs.map Value.int) (.int 0)) :
    MetFree l (⟨"com/example/olm/olm/siard/CellType", "length", "([BII)J"⟩ : MethodName) (head1 (Jvm.Cond.code (⟨"com/example/olm/olm/siard/CellType", "length", "([BII)J"⟩ : MethodName) prog_132_method_14_code 7 (some .long) :: ws) ({ frames := 0, cells := 0, slots := 0, locals := 0 } : Room)) (fun a U => a = #[(.ref a1), (.ref a2), (.int (Int32.ofNat f)), (.int (Int32.ofNat t))] ∧ Z.Warmed39 U.vm ∧ U.heap = h0) (fun _ _ _ _ _ => True) (fun _ U o U' => ∃ v L, o = .returned v ∧ Q1 Z (Int64.ofNat (own_cnt xs f (t - f))) h0 n0 v U'.heap L ∧ FrameEnd U o U' L ({ frames := 0, cells := 0, slots := 0, locals := 0 } : Room).cells ({ frames := 0, cells := 0, slots := 0, locals := 0 } : Room).slots) := by
  refine MetFree.of_bodySF (plainFor_of_name pn_1) hisR ?_
  intro p e s m args below meth c s₁ Bd hml0 hP hK
  obtain ⟨rfl, hZ, hh⟩ := hP
  have hx := Bd.exec
  have hby := Bd.bytes
  have hml : c.maxLocals = 7 := hml0
  have hown : s.vm.findClass "com/example/olm/olm/siard/CellType" = some m.cls := findClass_of_methodNamed Bd.named
  have hnm := (name_of_methodNamed Bd.named Bd.method).1
  have X0 : Stand p l e ({ frames := 0, cells := 0, slots := 0, locals := 0 } : Room) s m #[(.ref a1), (.ref a2), (.int (Int32.ofNat f)), (.int (Int32.ofNat t))] below meth c s₁ [] 0 0 := Stand.of_body Bd
  have e0 : s₁.heap = h0 := by rw [← hh, Bd.state]; rfl
  have N0 := Fr.nil n0
  have pre0 : ∀ tt, Steps p.tables e below (s₁.setTop (mkF m 0 #[.val (.ref a1), .val (.ref a2), .val (.int (Int32.ofNat f)), .val (.int (Int32.ofNat t)), .unset, .unset, .unset] [])) tt → Steps p.tables e below (s₁.setTop (entryFrame m #[(.ref a1), (.ref a2), (.int (Int32.ofNat f)), (.int (Int32.ofNat t))] 7)) tt := fun tt k => castTop (ef_1 m a1 a2 (Int32.ofNat f) (Int32.ofNat t)) k
  obtain ⟨T6, X6, e6, st6⟩ := getS2 X0 hx hZ hown (host := "") (Or.inl (hw _ (List.mem_of_getElem? (i := 10) rfl))) Via.refl e0 S_CLOB (g := (mkF m 1 #[.val (.ref a1), .val (.ref a2), .val (.int (Int32.ofNat f)), .val (.int (Int32.ofNat t)), .unset, .unset, .unset] [(.ref a1)])) rfl (hb hby d1_1)
  obtain ⟨cl, Ar, -, Sz, -, H, -⟩ := V
  obtain ⟨TL, XL, eL, stL⟩ := loop1 (.val (.ref a1)) a2 (.val (.int (Int32.ofNat f))) xs t ht hxs hx hZ hw hby hml hown cl Ar Sz H (t - f) f 0 T6 (by omega) X6 e6
  rw [Nat.zero_add] at stL
  obtain ⟨fs, hr, hrun, hended, hW, hsame⟩ := XL.leave (v := some (.long (Int64.ofNat (own_cnt xs f (t - f))))) (fun h => by rw [Bd.returns] at h; cases h)
  refine ⟨_, _, pre0 _ ?_, hrun, hended, _, _, rfl, ?_, ⟨_, rfl⟩, hW, hsame.mono (by decide) (by decide)⟩
  · show Steps p.tables e below (s₁.setTop (mkF m 0 #[.val (.ref a1), .val (.ref a2), .val (.int (Int32.ofNat f)), .val (.int (Int32.ofNat t)), .unset, .unset, .unset] [])) _
    refine XS.aloadN X0.here hx rfl (hb hby d1_0) rfl rfl ?_
    show Steps p.tables e below (s₁.setTop (mkF m 1 #[.val (.ref a1), .val (.ref a2), .val (.int (Int32.ofNat f)), .val (.int (Int32.ofNat t)), .unset, .unset, .unset] [(.ref a1)])) _
    refine st6 _ ?_
    show Steps p.tables e below (T6.setTop (mkF m 4 #[.val (.ref a1), .val (.ref a2), .val (.int (Int32.ofNat f)), .val (.int (Int32.ofNat t)), .unset, .unset, .unset] [(.ref w5), (.ref a1)])) _
    refine Jvm.RoadKit.acmp (g := (mkF m 4 #[.val (.ref a1), .val (.ref a2), .val (.int (Int32.ofNat f)), .val (.int (Int32.ofNat t)), .unset, .unset, .unset] [(.ref w5), (.ref a1)])) X6 hx rfl rfl rfl (pc0 := 4) (pc' := 7) (same := true) rfl (hb hby d1_4) rfl (decide_eq_true (congrArg Value.ref ha4)) (by decide) (by decide) ?_
    show Steps p.tables e below (T6.setTop (mkF m 7 #[.val (.ref a1), .val (.ref a2), .val (.int (Int32.ofNat f)), .val (.int (Int32.ofNat t)), .unset, .unset, .unset] [])) _
    refine XS.lconst X6.here hx rfl (hb hby d1_7) ?_
    show Steps p.tables e below (T6.setTop (mkF m 8 #[.val (.ref a1), .val (.ref a2), .val (.int (Int32.ofNat f)), .val (.int (Int32.ofNat t)), .unset, .unset, .unset] [(.long (0 : Int64))])) _
    refine XS.lstore X6.here hx rfl (hb hby d1_8) rfl (l' := #[.val (.ref a1), .val (.ref a2), .val (.int (Int32.ofNat f)), .val (.int (Int32.ofNat t)), .val (.long (0 : Int64)), .second, .unset]) rfl ?_
    show Steps p.tables e below (T6.setTop (mkF m 10 #[.val (.ref a1), .val (.ref a2), .val (.int (Int32.ofNat f)), .val (.int (Int32.ofNat t)), .val (.long (0 : Int64)), .second, .unset] [])) _
    refine XS.iloadN X6.here hx rfl (hb hby d1_10) rfl ?_
    show Steps p.tables e below (T6.setTop (mkF m 11 #[.val (.ref a1), .val (.ref a2), .val (.int (Int32.ofNat f)), .val (.int (Int32.ofNat t)), .val (.long (0 : Int64)), .second, .unset] [(.int (Int32.ofNat f))])) _
    refine XS.istore X6.here hx rfl (hb hby d1_11) rfl (l' := #[.val (.ref a1), .val (.ref a2), .val (.int (Int32.ofNat f)), .val (.int (Int32.ofNat t)), .val (.long (0 : Int64)), .second, .val (.int (Int32.ofNat f))]) rfl ?_
    show Steps p.tables e below (T6.setTop (mkF m 13 #[.val (.ref a1), .val (.ref a2), .val (.int (Int32.ofNat f)), .val (.int (Int32.ofNat t)), .val (.long (0 : Int64)), .second, .val (.int (Int32.ofNat f))] [])) _
    refine stL _ ?_
    show Steps p.tables e below (TL.setTop (mkF m 45 #[.val (.ref a1), .val (.ref a2), .val (.int (Int32.ofNat f)), .val (.int (Int32.ofNat t)), .val (.long (Int64.ofNat (own_cnt xs f (t - f)))), .second, .val (.int (Int32.ofNat t))] [])) _
    refine XS.goto XL.here hx rfl (pc0 := 45) (pc' := 54) rfl (hb hby d1_45) (by decide) (by decide) ?_
    show Steps p.tables e below (TL.setTop (mkF m 54 #[.val (.ref a1), .val (.ref a2), .val (.int (Int32.ofNat f)), .val (.int (Int32.ofNat t)), .val (.long (Int64.ofNat (own_cnt xs f (t - f)))), .second, .val (.int (Int32.ofNat t))] [])) _
    refine XS.lload XL.here hx rfl (hb hby d1_54) rfl ?_
    show Steps p.tables e below (TL.setTop (mkF m 56 #[.val (.ref a1), .val (.ref a2), .val (.int (Int32.ofNat f)), .val (.int (Int32.ofNat t)), .val (.long (Int64.ofNat (own_cnt xs f (t - f)))), .second, .val (.int (Int32.ofNat t))] [(.long (Int64.ofNat (own_cnt xs f (t - f))))])) _
    exact XL.lreturnOut hx Bd.returns (hb hby d1_56) hr
  · show Q1 Z (Int64.ofNat (own_cnt xs f (t - f))) h0 n0 _ TL.heap _
    rw [eL]
    exact ⟨rfl, N0, rfl⟩

set_option maxRecDepth 65536 in
set_option maxHeartbeats 40000000 in
theorem tn0_0_85 {p : Program} {l : Launch} {e : Env} {s : State} {m : MethodId} {args : Array Value} {below : List Frame} {meth : Method} {c : Code} {T0 : State} {locs : List Loc} {Z : State} {a0 : Array Value} {h0 : Heap} (s0 : Slot) (j1 : Int64) (s3 : Slot) (s4 : Slot) (s5 : Slot) (s6 : Slot) (s7 : Slot) (s8 : Slot) (s9 : Slot) (s10 : Slot) (s11 : Slot) (n0 : Nat)
    (X0 : Stand p l e room_1 s m args below meth c T0 locs 0 0) (hx : p.tables.exec = Jvm.exec) (hZ : Z.Warmed39 s.vm) (hw : ∀ d ∈ tables_1, d.before a0 Z = true) (hby : c.code = code) (hml : c.maxLocals = 12) (hown : s.vm.findClass "com/example/olm/olm/siard/CellTypeLengthPinLaw" = some m.cls) (e0 : T0.heap = h0) (Z0 : n0 ≤ h0.size) (N0 : Fr n0 locs) (hs5 : One s5) :
    ∃ (T' : State) (h' : Heap) (locs' : List Loc) (b5 : Addr) (k5 : ClassId) (xs : List Int32), Stand p l e room_1 s m args below meth c T' locs' 1 8 ∧ T'.heap = h' ∧ Fr n0 locs' ∧ Keep h0 h' [] ∧ Arv Z h' b5 k5 .byte (8 : Int32) (xs.map Value.int) (.int 0) ∧ (∀ j, j < 8 → -128 ≤ (xs.getD j 0).toInt ∧ (xs.getD j 0).toInt < 128) ∧
      ∀ target, Steps p.tables e below (T'.setTop (mkF m 85 #[s0, .val (.long j1), .second, s3, s4, .val (.ref b5), s6, s7, s8, s9, s10, s11] [])) target → Steps p.tables e below (T0.setTop (mkF m 0 #[s0, .val (.long j1), .second, s3, s4, s5, s6, s7, s8, s9, s10, s11] [])) target := by
  obtain ⟨T5, h5, k5, X5, e5, E5, A5, st5⟩ := newP X0 hx hZ (hw _ (List.mem_of_getElem? (i := 0) rfl)) e0 (g := (mkF m 2 #[s0, .val (.long j1), .second, s3, s4, s5, s6, s7, s8, s9, s10, s11] [(.int (8 : Int32))])) rfl (hb hby at_2) rfl (by decide) (cap := 8) (by decide) (by decide) (by decide) (by decide)
  obtain ⟨b5, g5⟩ : ∃ z, z = h0.size := ⟨_, rfl⟩      -- the fresh array's address
  rw [← g5] at A5 st5
  have V_b5 : Arv Z h5 b5 k5 .byte (8 : Int32) [(.int (0 : Int32)), (.int (0 : Int32)), (.int (0 : Int32)), (.int (0 : Int32)), (.int (0 : Int32)), (.int (0 : Int32)), (.int (0 : Int32)), (.int (0 : Int32))] (.int (0 : Int32)) := (Arv.new A5 (by decide)).pad (pad_rep [] (.int (0 : Int32)) 8)
  have g_b5 : n0 ≤ b5 := Nat.le_trans Z0 (Nat.le_of_eq g5.symm)
  have sz_b5 : h0.size ≤ b5 := (Nat.le_trans (Keep.refl h0 []).1 (Nat.le_of_eq g5.symm))
  have K5 : Keep h0 h5 [] := (Keep.refl h0 []).ext E5
  obtain ⟨cl_b5_12, Ar_b5, q_b5, S_b5, N_b5, H_b5, G_b5⟩ := V_b5      -- open the array's fact as it stands now (its cell, kind, length, elements)
  have hin12 : ¬ ((0 : Int32) < 0 ∨ cl_b5_12.slots.size ≤ ((0 : Int32)).toNatClampNeg) := inb_of S_b5 ⟨by decide, by decide⟩
  obtain ⟨T6, h6, X6, e6, W6, st6⟩ := stB X5 hx hZ e5 Ar_b5 (j := (0 : Int32)) hin12 (g := (mkF m 12 #[s0, .val (.long j1), .second, s3, s4, .val (.ref b5), s6, s7, s8, s9, s10, s11] [(.int ((j1.toInt32).toInt8.toInt32)), (.int (0 : Int32)), (.ref b5)])) rfl rfl (hb hby at_12)
  have V_b5_6 := Arv.set Ar_b5 q_b5 S_b5 N_b5 H_b5 G_b5 (fits_nar_byte _) W6 0 rfl (Nat.le_of_ble_eq_true rfl)      -- the array as it stands now (the place must lie among its first values: Arv.pad with pad_rep lengthens them)
  have K6 : Keep h0 h6 [] := K5.wr W6 (Or.inr sz_b5)
  have N6 := Fr.snoc X6 N0 g_b5
  obtain ⟨cl_b5_22, Ar_b5, q_b5, S_b5, N_b5, H_b5, G_b5⟩ := V_b5_6      -- open the array's fact as it stands now (its cell, kind, length, elements)
  have hin22 : ¬ ((1 : Int32) < 0 ∨ cl_b5_22.slots.size ≤ ((1 : Int32)).toNatClampNeg) := inb_of S_b5 ⟨by decide, by decide⟩
  obtain ⟨T7, h7, X7, e7, W7, st7⟩ := stB X6 hx hZ e6 Ar_b5 (j := (1 : Int32)) hin22 (g := (mkF m 22 #[s0, .val (.long j1), .second, s3, s4, .val (.ref b5), s6, s7, s8, s9, s10, s11] [(.int ((((j1.toUInt64 >>> ((8 : Int32) &&& 0x3f).toInt64.toUInt64).toInt64).toInt32).toInt8.toInt32)), (.int (1 : Int32)), (.ref b5)])) rfl rfl (hb hby at_22)
  have V_b5_7 := Arv.set Ar_b5 q_b5 S_b5 N_b5 H_b5 G_b5 (fits_nar_byte _) W7 1 rfl (Nat.le_of_ble_eq_true rfl)      -- the array as it stands now (the place must lie among its first values: Arv.pad with pad_rep lengthens them)
  have K7 : Keep h0 h7 [] := K6.wr W7 (Or.inr sz_b5)
  have N7 := Fr.snoc X7 N6 g_b5
  obtain ⟨cl_b5_32, Ar_b5, q_b5, S_b5, N_b5, H_b5, G_b5⟩ := V_b5_7      -- open the array's fact as it stands now (its cell, kind, length, elements)
  have hin32 : ¬ ((2 : Int32) < 0 ∨ cl_b5_32.slots.size ≤ ((2 : Int32)).toNatClampNeg) := inb_of S_b5 ⟨by decide, by decide⟩
  obtain ⟨T8, h8, X8, e8, W8, st8⟩ := stB X7 hx hZ e7 Ar_b5 (j := (2 : Int32)) hin32 (g := (mkF m 32 #[s0, .val (.long j1), .second, s3, s4, .val (.ref b5), s6, s7, s8, s9, s10, s11] [(.int ((((j1.toUInt64 >>> ((16 : Int32) &&& 0x3f).toInt64.toUInt64).toInt64).toInt32).toInt8.toInt32)), (.int (2 : Int32)), (.ref b5)])) rfl rfl (hb hby at_32)
  have V_b5_8 := Arv.set Ar_b5 q_b5 S_b5 N_b5 H_b5 G_b5 (fits_nar_byte _) W8 2 rfl (Nat.le_of_ble_eq_true rfl)      -- the array as it stands now (the place must lie among its first values: Arv.pad with pad_rep lengthens them)
  have K8 : Keep h0 h8 [] := K7.wr W8 (Or.inr sz_b5)
  have N8 := Fr.snoc X8 N7 g_b5
  obtain ⟨cl_b5_42, Ar_b5, q_b5, S_b5, N_b5, H_b5, G_b5⟩ := V_b5_8      -- open the array's fact as it stands now (its cell, kind, length, elements)
  have hin42 : ¬ ((3 : Int32) < 0 ∨ cl_b5_42.slots.size ≤ ((3 : Int32)).toNatClampNeg) := inb_of S_b5 ⟨by decide, by decide⟩
  obtain ⟨T9, h9, X9, e9, W9, st9⟩ := stB X8 hx hZ e8 Ar_b5 (j := (3 : Int32)) hin42 (g := (mkF m 42 #[s0, .val (.long j1), .second, s3, s4, .val (.ref b5), s6, s7, s8, s9, s10, s11] [(.int ((((j1.toUInt64 >>> ((24 : Int32) &&& 0x3f).toInt64.toUInt64).toInt64).toInt32).toInt8.toInt32)), (.int (3 : Int32)), (.ref b5)])) rfl rfl (hb hby at_42)
  have V_b5_9 := Arv.set Ar_b5 q_b5 S_b5 N_b5 H_b5 G_b5 (fits_nar_byte _) W9 3 rfl (Nat.le_of_ble_eq_true rfl)      -- the array as it stands now (the place must lie among its first values: Arv.pad with pad_rep lengthens them)
  have K9 : Keep h0 h9 [] := K8.wr W9 (Or.inr sz_b5)
  have N9 := Fr.snoc X9 N8 g_b5
  obtain ⟨cl_b5_52, Ar_b5, q_b5, S_b5, N_b5, H_b5, G_b5⟩ := V_b5_9      -- open the array's fact as it stands now (its cell, kind, length, elements)
  have hin52 : ¬ ((4 : Int32) < 0 ∨ cl_b5_52.slots.size ≤ ((4 : Int32)).toNatClampNeg) := inb_of S_b5 ⟨by decide, by decide⟩
  obtain ⟨T10, h10, X10, e10, W10, st10⟩ := stB X9 hx hZ e9 Ar_b5 (j := (4 : Int32)) hin52 (g := (mkF m 52 #[s0, .val (.long j1), .second, s3, s4, .val (.ref b5), s6, s7, s8, s9, s10, s11] [(.int ((((j1.toUInt64 >>> ((32 : Int32) &&& 0x3f).toInt64.toUInt64).toInt64).toInt32).toInt8.toInt32)), (.int (4 : Int32)), (.ref b5)])) rfl rfl (hb hby at_52)
  have V_b5_10 := Arv.set Ar_b5 q_b5 S_b5 N_b5 H_b5 G_b5 (fits_nar_byte _) W10 4 rfl (Nat.le_of_ble_eq_true rfl)      -- the array as it stands now (the place must lie among its first values: Arv.pad with pad_rep lengthens them)
  have K10 : Keep h0 h10 [] := K9.wr W10 (Or.inr sz_b5)
  have N10 := Fr.snoc X10 N9 g_b5
  obtain ⟨cl_b5_62, Ar_b5, q_b5, S_b5, N_b5, H_b5, G_b5⟩ := V_b5_10      -- open the array's fact as it stands now (its cell, kind, length, elements)
  have hin62 : ¬ ((5 : Int32) < 0 ∨ cl_b5_62.slots.size ≤ ((5 : Int32)).toNatClampNeg) := inb_of S_b5 ⟨by decide, by decide⟩
  obtain ⟨T11, h11, X11, e11, W11, st11⟩ := stB X10 hx hZ e10 Ar_b5 (j := (5 : Int32)) hin62 (g := (mkF m 62 #[s0, .val (.long j1), .second, s3, s4, .val (.ref b5), s6, s7, s8, s9, s10, s11] [(.int ((((j1.toUInt64 >>> ((40 : Int32) &&& 0x3f).toInt64.toUInt64).toInt64).toInt32).toInt8.toInt32)), (.int (5 : Int32)), (.ref b5)])) rfl rfl (hb hby at_62)
  have V_b5_11 := Arv.set Ar_b5 q_b5 S_b5 N_b5 H_b5 G_b5 (fits_nar_byte _) W11 5 rfl (Nat.le_of_ble_eq_true rfl)      -- the array as it stands now (the place must lie among its first values: Arv.pad with pad_rep lengthens them)
  have K11 : Keep h0 h11 [] := K10.wr W11 (Or.inr sz_b5)
  have N11 := Fr.snoc X11 N10 g_b5
  obtain ⟨cl_b5_73, Ar_b5, q_b5, S_b5, N_b5, H_b5, G_b5⟩ := V_b5_11      -- open the array's fact as it stands now (its cell, kind, length, elements)
  have hin73 : ¬ ((6 : Int32) < 0 ∨ cl_b5_73.slots.size ≤ ((6 : Int32)).toNatClampNeg) := inb_of S_b5 ⟨by decide, by decide⟩
  obtain ⟨T12, h12, X12, e12, W12, st12⟩ := stB X11 hx hZ e11 Ar_b5 (j := (6 : Int32)) hin73 (g := (mkF m 73 #[s0, .val (.long j1), .second, s3, s4, .val (.ref b5), s6, s7, s8, s9, s10, s11] [(.int ((((j1.toUInt64 >>> ((48 : Int32) &&& 0x3f).toInt64.toUInt64).toInt64).toInt32).toInt8.toInt32)), (.int (6 : Int32)), (.ref b5)])) rfl rfl (hb hby at_73)
  have V_b5_12 := Arv.set Ar_b5 q_b5 S_b5 N_b5 H_b5 G_b5 (fits_nar_byte _) W12 6 rfl (Nat.le_of_ble_eq_true rfl)      -- the array as it stands now (the place must lie among its first values: Arv.pad with pad_rep lengthens them)
  have K12 : Keep h0 h12 [] := K11.wr W12 (Or.inr sz_b5)
  have N12 := Fr.snoc X12 N11 g_b5
  obtain ⟨cl_b5_84, Ar_b5, q_b5, S_b5, N_b5, H_b5, G_b5⟩ := V_b5_12      -- open the array's fact as it stands now (its cell, kind, length, elements)
  have hin84 : ¬ ((7 : Int32) < 0 ∨ cl_b5_84.slots.size ≤ ((7 : Int32)).toNatClampNeg) := inb_of S_b5 ⟨by decide, by decide⟩
  obtain ⟨T13, h13, X13, e13, W13, st13⟩ := stB X12 hx hZ e12 Ar_b5 (j := (7 : Int32)) hin84 (g := (mkF m 84 #[s0, .val (.long j1), .second, s3, s4, .val (.ref b5), s6, s7, s8, s9, s10, s11] [(.int ((((j1.toUInt64 >>> ((56 : Int32) &&& 0x3f).toInt64.toUInt64).toInt64).toInt32).toInt8.toInt32)), (.int (7 : Int32)), (.ref b5)])) rfl rfl (hb hby at_84)
  have V_b5_13 := Arv.set Ar_b5 q_b5 S_b5 N_b5 H_b5 G_b5 (fits_nar_byte _) W13 7 rfl (Nat.le_of_ble_eq_true rfl)      -- the array as it stands now (the place must lie among its first values: Arv.pad with pad_rep lengthens them)
  have K13 : Keep h0 h13 [] := K12.wr W13 (Or.inr sz_b5)
  have N13 := Fr.snoc X13 N12 g_b5
  refine ⟨T13, _, _, b5, k5, [nar .byte ((j1.toInt32).toInt8.toInt32), nar .byte ((((j1.toUInt64 >>> ((8 : Int32) &&& 0x3f).toInt64.toUInt64).toInt64).toInt32).toInt8.toInt32), nar .byte ((((j1.toUInt64 >>> ((16 : Int32) &&& 0x3f).toInt64.toUInt64).toInt64).toInt32).toInt8.toInt32), nar .byte ((((j1.toUInt64 >>> ((24 : Int32) &&& 0x3f).toInt64.toUInt64).toInt64).toInt32).toInt8.toInt32), nar .byte ((((j1.toUInt64 >>> ((32 : Int32) &&& 0x3f).toInt64.toUInt64).toInt64).toInt32).toInt8.toInt32), nar .byte ((((j1.toUInt64 >>> ((40 : Int32) &&& 0x3f).toInt64.toUInt64).toInt64).toInt32).toInt8.toInt32), nar .byte ((((j1.toUInt64 >>> ((48 : Int32) &&& 0x3f).toInt64.toUInt64).toInt64).toInt32).toInt8.toInt32), nar .byte ((((j1.toUInt64 >>> ((56 : Int32) &&& 0x3f).toInt64.toUInt64).toInt64).toInt32).toInt8.toInt32)], X13, e13, N13, K13, V_b5_13, ?_, fun target kt => ?_⟩
  · intro j hj
    obtain rfl | rfl | rfl | rfl | rfl | rfl | rfl | rfl : j = 0 ∨ j = 1 ∨ j = 2 ∨ j = 3 ∨ j = 4 ∨ j = 5 ∨ j = 6 ∨ j = 7 := by omega
    all_goals exact own_byte _
  show Steps p.tables e below (T0.setTop (mkF m 0 #[s0, .val (.long j1), .second, s3, s4, s5, s6, s7, s8, s9, s10, s11] [])) _
  refine XS.bipush X0.here hx rfl (hb hby at_0) ?_
  show Steps p.tables e below (T0.setTop (mkF m 2 #[s0, .val (.long j1), .second, s3, s4, s5, s6, s7, s8, s9, s10, s11] [(.int (8 : Int32))])) _
  refine st5 _ ?_
  show Steps p.tables e below (T5.setTop (mkF m 4 #[s0, .val (.long j1), .second, s3, s4, s5, s6, s7, s8, s9, s10, s11] [(.ref b5)])) _
  refine XS.astore X5.here hx rfl (hb hby at_4) rfl rfl (l' := #[s0, .val (.long j1), .second, s3, s4, .val (.ref b5), s6, s7, s8, s9, s10, s11]) (os0_4 hs5) ?_
  show Steps p.tables e below (T5.setTop (mkF m 6 #[s0, .val (.long j1), .second, s3, s4, .val (.ref b5), s6, s7, s8, s9, s10, s11] [])) _
  refine XS.aload X5.here hx rfl (hb hby at_6) rfl rfl ?_
  show Steps p.tables e below (T5.setTop (mkF m 8 #[s0, .val (.long j1), .second, s3, s4, .val (.ref b5), s6, s7, s8, s9, s10, s11] [(.ref b5)])) _
  refine XS.iconst X5.here hx rfl (hb hby at_8) ?_
  show Steps p.tables e below (T5.setTop (mkF m 9 #[s0, .val (.long j1), .second, s3, s4, .val (.ref b5), s6, s7, s8, s9, s10, s11] [(.int (0 : Int32)), (.ref b5)])) _
  refine XS.lloadN X5.here hx rfl (hb hby at_9) rfl ?_
  show Steps p.tables e below (T5.setTop (mkF m 10 #[s0, .val (.long j1), .second, s3, s4, .val (.ref b5), s6, s7, s8, s9, s10, s11] [(.long j1), (.int (0 : Int32)), (.ref b5)])) _
  refine XS.l2i X5.here hx rfl (hb hby at_10) rfl ?_
  show Steps p.tables e below (T5.setTop (mkF m 11 #[s0, .val (.long j1), .second, s3, s4, .val (.ref b5), s6, s7, s8, s9, s10, s11] [(.int (j1.toInt32)), (.int (0 : Int32)), (.ref b5)])) _
  refine XS.i2b X5.here hx rfl (hb hby at_11) rfl ?_
  show Steps p.tables e below (T5.setTop (mkF m 12 #[s0, .val (.long j1), .second, s3, s4, .val (.ref b5), s6, s7, s8, s9, s10, s11] [(.int ((j1.toInt32).toInt8.toInt32)), (.int (0 : Int32)), (.ref b5)])) _
  refine st6 _ ?_
  show Steps p.tables e below (T6.setTop (mkF m 13 #[s0, .val (.long j1), .second, s3, s4, .val (.ref b5), s6, s7, s8, s9, s10, s11] [])) _
  refine XS.aload X6.here hx rfl (hb hby at_13) rfl rfl ?_
  show Steps p.tables e below (T6.setTop (mkF m 15 #[s0, .val (.long j1), .second, s3, s4, .val (.ref b5), s6, s7, s8, s9, s10, s11] [(.ref b5)])) _
  refine XS.iconst X6.here hx rfl (hb hby at_15) ?_
  show Steps p.tables e below (T6.setTop (mkF m 16 #[s0, .val (.long j1), .second, s3, s4, .val (.ref b5), s6, s7, s8, s9, s10, s11] [(.int (1 : Int32)), (.ref b5)])) _
  refine XS.lloadN X6.here hx rfl (hb hby at_16) rfl ?_
  show Steps p.tables e below (T6.setTop (mkF m 17 #[s0, .val (.long j1), .second, s3, s4, .val (.ref b5), s6, s7, s8, s9, s10, s11] [(.long j1), (.int (1 : Int32)), (.ref b5)])) _
  refine XS.bipush X6.here hx rfl (hb hby at_17) ?_
  show Steps p.tables e below (T6.setTop (mkF m 19 #[s0, .val (.long j1), .second, s3, s4, .val (.ref b5), s6, s7, s8, s9, s10, s11] [(.int (8 : Int32)), (.long j1), (.int (1 : Int32)), (.ref b5)])) _
  refine XS.lushr X6.here hx rfl (hb hby at_19) rfl ?_
  show Steps p.tables e below (T6.setTop (mkF m 20 #[s0, .val (.long j1), .second, s3, s4, .val (.ref b5), s6, s7, s8, s9, s10, s11] [(.long ((j1.toUInt64 >>> ((8 : Int32) &&& 0x3f).toInt64.toUInt64).toInt64)), (.int (1 : Int32)), (.ref b5)])) _
  refine XS.l2i X6.here hx rfl (hb hby at_20) rfl ?_
  show Steps p.tables e below (T6.setTop (mkF m 21 #[s0, .val (.long j1), .second, s3, s4, .val (.ref b5), s6, s7, s8, s9, s10, s11] [(.int (((j1.toUInt64 >>> ((8 : Int32) &&& 0x3f).toInt64.toUInt64).toInt64).toInt32)), (.int (1 : Int32)), (.ref b5)])) _
  refine XS.i2b X6.here hx rfl (hb hby at_21) rfl ?_
  show Steps p.tables e below (T6.setTop (mkF m 22 #[s0, .val (.long j1), .second, s3, s4, .val (.ref b5), s6, s7, s8, s9, s10, s11] [(.int ((((j1.toUInt64 >>> ((8 : Int32) &&& 0x3f).toInt64.toUInt64).toInt64).toInt32).toInt8.toInt32)), (.int (1 : Int32)), (.ref b5)])) _
  refine st7 _ ?_
  show Steps p.tables e below (T7.setTop (mkF m 23 #[s0, .val (.long j1), .second, s3, s4, .val (.ref b5), s6, s7, s8, s9, s10, s11] [])) _
  refine XS.aload X7.here hx rfl (hb hby at_23) rfl rfl ?_
  show Steps p.tables e below (T7.setTop (mkF m 25 #[s0, .val (.long j1), .second, s3, s4, .val (.ref b5), s6, s7, s8, s9, s10, s11] [(.ref b5)])) _
  refine XS.iconst X7.here hx rfl (hb hby at_25) ?_
  show Steps p.tables e below (T7.setTop (mkF m 26 #[s0, .val (.long j1), .second, s3, s4, .val (.ref b5), s6, s7, s8, s9, s10, s11] [(.int (2 : Int32)), (.ref b5)])) _
  refine XS.lloadN X7.here hx rfl (hb hby at_26) rfl ?_
  show Steps p.tables e below (T7.setTop (mkF m 27 #[s0, .val (.long j1), .second, s3, s4, .val (.ref b5), s6, s7, s8, s9, s10, s11] [(.long j1), (.int (2 : Int32)), (.ref b5)])) _
  refine XS.bipush X7.here hx rfl (hb hby at_27) ?_
  show Steps p.tables e below (T7.setTop (mkF m 29 #[s0, .val (.long j1), .second, s3, s4, .val (.ref b5), s6, s7, s8, s9, s10, s11] [(.int (16 : Int32)), (.long j1), (.int (2 : Int32)), (.ref b5)])) _
  refine XS.lushr X7.here hx rfl (hb hby at_29) rfl ?_
  show Steps p.tables e below (T7.setTop (mkF m 30 #[s0, .val (.long j1), .second, s3, s4, .val (.ref b5), s6, s7, s8, s9, s10, s11] [(.long ((j1.toUInt64 >>> ((16 : Int32) &&& 0x3f).toInt64.toUInt64).toInt64)), (.int (2 : Int32)), (.ref b5)])) _
  refine XS.l2i X7.here hx rfl (hb hby at_30) rfl ?_
  show Steps p.tables e below (T7.setTop (mkF m 31 #[s0, .val (.long j1), .second, s3, s4, .val (.ref b5), s6, s7, s8, s9, s10, s11] [(.int (((j1.toUInt64 >>> ((16 : Int32) &&& 0x3f).toInt64.toUInt64).toInt64).toInt32)), (.int (2 : Int32)), (.ref b5)])) _
  refine XS.i2b X7.here hx rfl (hb hby at_31) rfl ?_
  show Steps p.tables e below (T7.setTop (mkF m 32 #[s0, .val (.long j1), .second, s3, s4, .val (.ref b5), s6, s7, s8, s9, s10, s11] [(.int ((((j1.toUInt64 >>> ((16 : Int32) &&& 0x3f).toInt64.toUInt64).toInt64).toInt32).toInt8.toInt32)), (.int (2 : Int32)), (.ref b5)])) _
  refine st8 _ ?_
  show Steps p.tables e below (T8.setTop (mkF m 33 #[s0, .val (.long j1), .second, s3, s4, .val (.ref b5), s6, s7, s8, s9, s10, s11] [])) _
  refine XS.aload X8.here hx rfl (hb hby at_33) rfl rfl ?_
  show Steps p.tables e below (T8.setTop (mkF m 35 #[s0, .val (.long j1), .second, s3, s4, .val (.ref b5), s6, s7, s8, s9, s10, s11] [(.ref b5)])) _
  refine XS.iconst X8.here hx rfl (hb hby at_35) ?_
  show Steps p.tables e below (T8.setTop (mkF m 36 #[s0, .val (.long j1), .second, s3, s4, .val (.ref b5), s6, s7, s8, s9, s10, s11] [(.int (3 : Int32)), (.ref b5)])) _
  refine XS.lloadN X8.here hx rfl (hb hby at_36) rfl ?_
  show Steps p.tables e below (T8.setTop (mkF m 37 #[s0, .val (.long j1), .second, s3, s4, .val (.ref b5), s6, s7, s8, s9, s10, s11] [(.long j1), (.int (3 : Int32)), (.ref b5)])) _
  refine XS.bipush X8.here hx rfl (hb hby at_37) ?_
  show Steps p.tables e below (T8.setTop (mkF m 39 #[s0, .val (.long j1), .second, s3, s4, .val (.ref b5), s6, s7, s8, s9, s10, s11] [(.int (24 : Int32)), (.long j1), (.int (3 : Int32)), (.ref b5)])) _
  refine XS.lushr X8.here hx rfl (hb hby at_39) rfl ?_
  show Steps p.tables e below (T8.setTop (mkF m 40 #[s0, .val (.long j1), .second, s3, s4, .val (.ref b5), s6, s7, s8, s9, s10, s11] [(.long ((j1.toUInt64 >>> ((24 : Int32) &&& 0x3f).toInt64.toUInt64).toInt64)), (.int (3 : Int32)), (.ref b5)])) _
  refine XS.l2i X8.here hx rfl (hb hby at_40) rfl ?_
  show Steps p.tables e below (T8.setTop (mkF m 41 #[s0, .val (.long j1), .second, s3, s4, .val (.ref b5), s6, s7, s8, s9, s10, s11] [(.int (((j1.toUInt64 >>> ((24 : Int32) &&& 0x3f).toInt64.toUInt64).toInt64).toInt32)), (.int (3 : Int32)), (.ref b5)])) _
  refine XS.i2b X8.here hx rfl (hb hby at_41) rfl ?_
  show Steps p.tables e below (T8.setTop (mkF m 42 #[s0, .val (.long j1), .second, s3, s4, .val (.ref b5), s6, s7, s8, s9, s10, s11] [(.int ((((j1.toUInt64 >>> ((24 : Int32) &&& 0x3f).toInt64.toUInt64).toInt64).toInt32).toInt8.toInt32)), (.int (3 : Int32)), (.ref b5)])) _
  refine st9 _ ?_
  show Steps p.tables e below (T9.setTop (mkF m 43 #[s0, .val (.long j1), .second, s3, s4, .val (.ref b5), s6, s7, s8, s9, s10, s11] [])) _
  refine XS.aload X9.here hx rfl (hb hby at_43) rfl rfl ?_
  show Steps p.tables e below (T9.setTop (mkF m 45 #[s0, .val (.long j1), .second, s3, s4, .val (.ref b5), s6, s7, s8, s9, s10, s11] [(.ref b5)])) _
  refine XS.iconst X9.here hx rfl (hb hby at_45) ?_
  show Steps p.tables e below (T9.setTop (mkF m 46 #[s0, .val (.long j1), .second, s3, s4, .val (.ref b5), s6, s7, s8, s9, s10, s11] [(.int (4 : Int32)), (.ref b5)])) _
  refine XS.lloadN X9.here hx rfl (hb hby at_46) rfl ?_
  show Steps p.tables e below (T9.setTop (mkF m 47 #[s0, .val (.long j1), .second, s3, s4, .val (.ref b5), s6, s7, s8, s9, s10, s11] [(.long j1), (.int (4 : Int32)), (.ref b5)])) _
  refine XS.bipush X9.here hx rfl (hb hby at_47) ?_
  show Steps p.tables e below (T9.setTop (mkF m 49 #[s0, .val (.long j1), .second, s3, s4, .val (.ref b5), s6, s7, s8, s9, s10, s11] [(.int (32 : Int32)), (.long j1), (.int (4 : Int32)), (.ref b5)])) _
  refine XS.lushr X9.here hx rfl (hb hby at_49) rfl ?_
  show Steps p.tables e below (T9.setTop (mkF m 50 #[s0, .val (.long j1), .second, s3, s4, .val (.ref b5), s6, s7, s8, s9, s10, s11] [(.long ((j1.toUInt64 >>> ((32 : Int32) &&& 0x3f).toInt64.toUInt64).toInt64)), (.int (4 : Int32)), (.ref b5)])) _
  refine XS.l2i X9.here hx rfl (hb hby at_50) rfl ?_
  show Steps p.tables e below (T9.setTop (mkF m 51 #[s0, .val (.long j1), .second, s3, s4, .val (.ref b5), s6, s7, s8, s9, s10, s11] [(.int (((j1.toUInt64 >>> ((32 : Int32) &&& 0x3f).toInt64.toUInt64).toInt64).toInt32)), (.int (4 : Int32)), (.ref b5)])) _
  refine XS.i2b X9.here hx rfl (hb hby at_51) rfl ?_
  show Steps p.tables e below (T9.setTop (mkF m 52 #[s0, .val (.long j1), .second, s3, s4, .val (.ref b5), s6, s7, s8, s9, s10, s11] [(.int ((((j1.toUInt64 >>> ((32 : Int32) &&& 0x3f).toInt64.toUInt64).toInt64).toInt32).toInt8.toInt32)), (.int (4 : Int32)), (.ref b5)])) _
  refine st10 _ ?_
  show Steps p.tables e below (T10.setTop (mkF m 53 #[s0, .val (.long j1), .second, s3, s4, .val (.ref b5), s6, s7, s8, s9, s10, s11] [])) _
  refine XS.aload X10.here hx rfl (hb hby at_53) rfl rfl ?_
  show Steps p.tables e below (T10.setTop (mkF m 55 #[s0, .val (.long j1), .second, s3, s4, .val (.ref b5), s6, s7, s8, s9, s10, s11] [(.ref b5)])) _
  refine XS.iconst X10.here hx rfl (hb hby at_55) ?_
  show Steps p.tables e below (T10.setTop (mkF m 56 #[s0, .val (.long j1), .second, s3, s4, .val (.ref b5), s6, s7, s8, s9, s10, s11] [(.int (5 : Int32)), (.ref b5)])) _
  refine XS.lloadN X10.here hx rfl (hb hby at_56) rfl ?_
  show Steps p.tables e below (T10.setTop (mkF m 57 #[s0, .val (.long j1), .second, s3, s4, .val (.ref b5), s6, s7, s8, s9, s10, s11] [(.long j1), (.int (5 : Int32)), (.ref b5)])) _
  refine XS.bipush X10.here hx rfl (hb hby at_57) ?_
  show Steps p.tables e below (T10.setTop (mkF m 59 #[s0, .val (.long j1), .second, s3, s4, .val (.ref b5), s6, s7, s8, s9, s10, s11] [(.int (40 : Int32)), (.long j1), (.int (5 : Int32)), (.ref b5)])) _
  refine XS.lushr X10.here hx rfl (hb hby at_59) rfl ?_
  show Steps p.tables e below (T10.setTop (mkF m 60 #[s0, .val (.long j1), .second, s3, s4, .val (.ref b5), s6, s7, s8, s9, s10, s11] [(.long ((j1.toUInt64 >>> ((40 : Int32) &&& 0x3f).toInt64.toUInt64).toInt64)), (.int (5 : Int32)), (.ref b5)])) _
  refine XS.l2i X10.here hx rfl (hb hby at_60) rfl ?_
  show Steps p.tables e below (T10.setTop (mkF m 61 #[s0, .val (.long j1), .second, s3, s4, .val (.ref b5), s6, s7, s8, s9, s10, s11] [(.int (((j1.toUInt64 >>> ((40 : Int32) &&& 0x3f).toInt64.toUInt64).toInt64).toInt32)), (.int (5 : Int32)), (.ref b5)])) _
  refine XS.i2b X10.here hx rfl (hb hby at_61) rfl ?_
  show Steps p.tables e below (T10.setTop (mkF m 62 #[s0, .val (.long j1), .second, s3, s4, .val (.ref b5), s6, s7, s8, s9, s10, s11] [(.int ((((j1.toUInt64 >>> ((40 : Int32) &&& 0x3f).toInt64.toUInt64).toInt64).toInt32).toInt8.toInt32)), (.int (5 : Int32)), (.ref b5)])) _
  refine st11 _ ?_
  show Steps p.tables e below (T11.setTop (mkF m 63 #[s0, .val (.long j1), .second, s3, s4, .val (.ref b5), s6, s7, s8, s9, s10, s11] [])) _
  refine XS.aload X11.here hx rfl (hb hby at_63) rfl rfl ?_
  show Steps p.tables e below (T11.setTop (mkF m 65 #[s0, .val (.long j1), .second, s3, s4, .val (.ref b5), s6, s7, s8, s9, s10, s11] [(.ref b5)])) _
  refine XS.bipush X11.here hx rfl (hb hby at_65) ?_
  show Steps p.tables e below (T11.setTop (mkF m 67 #[s0, .val (.long j1), .second, s3, s4, .val (.ref b5), s6, s7, s8, s9, s10, s11] [(.int (6 : Int32)), (.ref b5)])) _
  refine XS.lloadN X11.here hx rfl (hb hby at_67) rfl ?_
  show Steps p.tables e below (T11.setTop (mkF m 68 #[s0, .val (.long j1), .second, s3, s4, .val (.ref b5), s6, s7, s8, s9, s10, s11] [(.long j1), (.int (6 : Int32)), (.ref b5)])) _
  refine XS.bipush X11.here hx rfl (hb hby at_68) ?_
  show Steps p.tables e below (T11.setTop (mkF m 70 #[s0, .val (.long j1), .second, s3, s4, .val (.ref b5), s6, s7, s8, s9, s10, s11] [(.int (48 : Int32)), (.long j1), (.int (6 : Int32)), (.ref b5)])) _
  refine XS.lushr X11.here hx rfl (hb hby at_70) rfl ?_
  show Steps p.tables e below (T11.setTop (mkF m 71 #[s0, .val (.long j1), .second, s3, s4, .val (.ref b5), s6, s7, s8, s9, s10, s11] [(.long ((j1.toUInt64 >>> ((48 : Int32) &&& 0x3f).toInt64.toUInt64).toInt64)), (.int (6 : Int32)), (.ref b5)])) _
  refine XS.l2i X11.here hx rfl (hb hby at_71) rfl ?_
  show Steps p.tables e below (T11.setTop (mkF m 72 #[s0, .val (.long j1), .second, s3, s4, .val (.ref b5), s6, s7, s8, s9, s10, s11] [(.int (((j1.toUInt64 >>> ((48 : Int32) &&& 0x3f).toInt64.toUInt64).toInt64).toInt32)), (.int (6 : Int32)), (.ref b5)])) _
  refine XS.i2b X11.here hx rfl (hb hby at_72) rfl ?_
  show Steps p.tables e below (T11.setTop (mkF m 73 #[s0, .val (.long j1), .second, s3, s4, .val (.ref b5), s6, s7, s8, s9, s10, s11] [(.int ((((j1.toUInt64 >>> ((48 : Int32) &&& 0x3f).toInt64.toUInt64).toInt64).toInt32).toInt8.toInt32)), (.int (6 : Int32)), (.ref b5)])) _
  refine st12 _ ?_
  show Steps p.tables e below (T12.setTop (mkF m 74 #[s0, .val (.long j1), .second, s3, s4, .val (.ref b5), s6, s7, s8, s9, s10, s11] [])) _
  refine XS.aload X12.here hx rfl (hb hby at_74) rfl rfl ?_
  show Steps p.tables e below (T12.setTop (mkF m 76 #[s0, .val (.long j1), .second, s3, s4, .val (.ref b5), s6, s7, s8, s9, s10, s11] [(.ref b5)])) _
  refine XS.bipush X12.here hx rfl (hb hby at_76) ?_
  show Steps p.tables e below (T12.setTop (mkF m 78 #[s0, .val (.long j1), .second, s3, s4, .val (.ref b5), s6, s7, s8, s9, s10, s11] [(.int (7 : Int32)), (.ref b5)])) _
  refine XS.lloadN X12.here hx rfl (hb hby at_78) rfl ?_
  show Steps p.tables e below (T12.setTop (mkF m 79 #[s0, .val (.long j1), .second, s3, s4, .val (.ref b5), s6, s7, s8, s9, s10, s11] [(.long j1), (.int (7 : Int32)), (.ref b5)])) _
  refine XS.bipush X12.here hx rfl (hb hby at_79) ?_
  show Steps p.tables e below (T12.setTop (mkF m 81 #[s0, .val (.long j1), .second, s3, s4, .val (.ref b5), s6, s7, s8, s9, s10, s11] [(.int (56 : Int32)), (.long j1), (.int (7 : Int32)), (.ref b5)])) _
  refine XS.lushr X12.here hx rfl (hb hby at_81) rfl ?_
  show Steps p.tables e below (T12.setTop (mkF m 82 #[s0, .val (.long j1), .second, s3, s4, .val (.ref b5), s6, s7, s8, s9, s10, s11] [(.long ((j1.toUInt64 >>> ((56 : Int32) &&& 0x3f).toInt64.toUInt64).toInt64)), (.int (7 : Int32)), (.ref b5)])) _
  refine XS.l2i X12.here hx rfl (hb hby at_82) rfl ?_
  show Steps p.tables e below (T12.setTop (mkF m 83 #[s0, .val (.long j1), .second, s3, s4, .val (.ref b5), s6, s7, s8, s9, s10, s11] [(.int (((j1.toUInt64 >>> ((56 : Int32) &&& 0x3f).toInt64.toUInt64).toInt64).toInt32)), (.int (7 : Int32)), (.ref b5)])) _
  refine XS.i2b X12.here hx rfl (hb hby at_83) rfl ?_
  show Steps p.tables e below (T12.setTop (mkF m 84 #[s0, .val (.long j1), .second, s3, s4, .val (.ref b5), s6, s7, s8, s9, s10, s11] [(.int ((((j1.toUInt64 >>> ((56 : Int32) &&& 0x3f).toInt64.toUInt64).toInt64).toInt32).toInt8.toInt32)), (.int (7 : Int32)), (.ref b5)])) _
  refine st13 _ ?_
  exact kt

set_option maxRecDepth 65536 in
set_option maxHeartbeats 40000000 in
theorem tn0_85_110 {p : Program} {l : Launch} {e : Env} {R : Room} {s : State} {m : MethodId} {args : Array Value} {below : List Frame} {meth : Method} {c : Code} {T0 : State} {locs : List Loc} {cells slots : Nat} {Z : State} {a0 : Array Value} {h0 : Heap} (s0 : Slot) (s1 : Slot) (s2 : Slot) (i3 : Int32) (i4 : Int32) (s5 : Slot) (s6 : Slot) (s7 : Slot) (s8 : Slot) (s9 : Slot) (s10 : Slot) (s11 : Slot)
    (X0 : Stand p l e R s m args below meth c T0 locs cells slots) (hx : p.tables.exec = Jvm.exec) (hZ : Z.Warmed39 s.vm) (hw : ∀ d ∈ tables_1, d.before a0 Z = true) (hby : c.code = code) (hml : c.maxLocals = 12) (hown : s.vm.findClass "com/example/olm/olm/siard/CellTypeLengthPinLaw" = some m.cls) (e0 : T0.heap = h0) (hs6 : One s6) (hs7 : One s7) (hnz106 : ¬ (((9 : Int32) - (own_rem (i3 &&& (2147483647 : Int32)) (9 : Int32))) = (0 : Int32))) :
    ∃ (T' : State), Stand p l e R s m args below meth c T' locs cells slots ∧ T'.heap = h0 ∧
      ∀ target, Steps p.tables e below (T'.setTop (mkF m 110 #[s0, s1, s2, .val (.int i3), .val (.int i4), s5, .val (.int (own_rem (i3 &&& (2147483647 : Int32)) (9 : Int32))), .val (.int ((own_rem (i3 &&& (2147483647 : Int32)) (9 : Int32)) + (own_rem (i4 &&& (2147483647 : Int32)) ((9 : Int32) - (own_rem (i3 &&& (2147483647 : Int32)) (9 : Int32)))))), s8, s9, s10, s11] [])) target → Steps p.tables e below (T0.setTop (mkF m 85 #[s0, s1, s2, .val (.int i3), .val (.int i4), s5, s6, s7, s8, s9, s10, s11] [])) target := by

  refine ⟨T0, X0, e0, fun target kt => ?_⟩
  show Steps p.tables e below (T0.setTop (mkF m 85 #[s0, s1, s2, .val (.int i3), .val (.int i4), s5, s6, s7, s8, s9, s10, s11] [])) _
  refine XS.iloadN X0.here hx rfl (hb hby at_85) rfl ?_
  show Steps p.tables e below (T0.setTop (mkF m 86 #[s0, s1, s2, .val (.int i3), .val (.int i4), s5, s6, s7, s8, s9, s10, s11] [(.int i3)])) _
  refine X0.ldcInt hx hown (mvT hZ (hw _ (List.mem_of_getElem? (i := 1) rfl))) (g := (mkF m 86 #[s0, s1, s2, .val (.int i3), .val (.int i4), s5, s6, s7, s8, s9, s10, s11] [(.int i3)])) rfl (hb hby at_86) _ ?_
  show Steps p.tables e below (T0.setTop (mkF m 88 #[s0, s1, s2, .val (.int i3), .val (.int i4), s5, s6, s7, s8, s9, s10, s11] [(.int (2147483647 : Int32)), (.int i3)])) _
  refine XS.iand X0.here hx rfl (hb hby at_88) rfl ?_
  show Steps p.tables e below (T0.setTop (mkF m 89 #[s0, s1, s2, .val (.int i3), .val (.int i4), s5, s6, s7, s8, s9, s10, s11] [(.int (i3 &&& (2147483647 : Int32)))])) _
  refine XS.bipush X0.here hx rfl (hb hby at_89) ?_
  show Steps p.tables e below (T0.setTop (mkF m 91 #[s0, s1, s2, .val (.int i3), .val (.int i4), s5, s6, s7, s8, s9, s10, s11] [(.int (9 : Int32)), (.int (i3 &&& (2147483647 : Int32)))])) _
  refine own_irem X0.here hx rfl (hb hby at_91) rfl (by decide) ?_
  show Steps p.tables e below (T0.setTop (mkF m 92 #[s0, s1, s2, .val (.int i3), .val (.int i4), s5, s6, s7, s8, s9, s10, s11] [(.int (own_rem (i3 &&& (2147483647 : Int32)) (9 : Int32)))])) _
  refine XS.istore X0.here hx rfl (hb hby at_92) rfl (l' := #[s0, s1, s2, .val (.int i3), .val (.int i4), s5, .val (.int (own_rem (i3 &&& (2147483647 : Int32)) (9 : Int32))), s7, s8, s9, s10, s11]) (os0_92 hs6) ?_
  show Steps p.tables e below (T0.setTop (mkF m 94 #[s0, s1, s2, .val (.int i3), .val (.int i4), s5, .val (.int (own_rem (i3 &&& (2147483647 : Int32)) (9 : Int32))), s7, s8, s9, s10, s11] [])) _
  refine XS.iload X0.here hx rfl (hb hby at_94) rfl ?_
  show Steps p.tables e below (T0.setTop (mkF m 96 #[s0, s1, s2, .val (.int i3), .val (.int i4), s5, .val (.int (own_rem (i3 &&& (2147483647 : Int32)) (9 : Int32))), s7, s8, s9, s10, s11] [(.int (own_rem (i3 &&& (2147483647 : Int32)) (9 : Int32)))])) _
  refine XS.iload X0.here hx rfl (hb hby at_96) rfl ?_
  show Steps p.tables e below (T0.setTop (mkF m 98 #[s0, s1, s2, .val (.int i3), .val (.int i4), s5, .val (.int (own_rem (i3 &&& (2147483647 : Int32)) (9 : Int32))), s7, s8, s9, s10, s11] [(.int i4), (.int (own_rem (i3 &&& (2147483647 : Int32)) (9 : Int32)))])) _
  refine X0.ldcInt hx hown (mvT hZ (hw _ (List.mem_of_getElem? (i := 1) rfl))) (g := (mkF m 98 #[s0, s1, s2, .val (.int i3), .val (.int i4), s5, .val (.int (own_rem (i3 &&& (2147483647 : Int32)) (9 : Int32))), s7, s8, s9, s10, s11] [(.int i4), (.int (own_rem (i3 &&& (2147483647 : Int32)) (9 : Int32)))])) rfl (hb hby at_98) _ ?_
  show Steps p.tables e below (T0.setTop (mkF m 100 #[s0, s1, s2, .val (.int i3), .val (.int i4), s5, .val (.int (own_rem (i3 &&& (2147483647 : Int32)) (9 : Int32))), s7, s8, s9, s10, s11] [(.int (2147483647 : Int32)), (.int i4), (.int (own_rem (i3 &&& (2147483647 : Int32)) (9 : Int32)))])) _
  refine XS.iand X0.here hx rfl (hb hby at_100) rfl ?_
  show Steps p.tables e below (T0.setTop (mkF m 101 #[s0, s1, s2, .val (.int i3), .val (.int i4), s5, .val (.int (own_rem (i3 &&& (2147483647 : Int32)) (9 : Int32))), s7, s8, s9, s10, s11] [(.int (i4 &&& (2147483647 : Int32))), (.int (own_rem (i3 &&& (2147483647 : Int32)) (9 : Int32)))])) _
  refine XS.bipush X0.here hx rfl (hb hby at_101) ?_
  show Steps p.tables e below (T0.setTop (mkF m 103 #[s0, s1, s2, .val (.int i3), .val (.int i4), s5, .val (.int (own_rem (i3 &&& (2147483647 : Int32)) (9 : Int32))), s7, s8, s9, s10, s11] [(.int (9 : Int32)), (.int (i4 &&& (2147483647 : Int32))), (.int (own_rem (i3 &&& (2147483647 : Int32)) (9 : Int32)))])) _
  refine XS.iload X0.here hx rfl (hb hby at_103) rfl ?_
  show Steps p.tables e below (T0.setTop (mkF m 105 #[s0, s1, s2, .val (.int i3), .val (.int i4), s5, .val (.int (own_rem (i3 &&& (2147483647 : Int32)) (9 : Int32))), s7, s8, s9, s10, s11] [(.int (own_rem (i3 &&& (2147483647 : Int32)) (9 : Int32))), (.int (9 : Int32)), (.int (i4 &&& (2147483647 : Int32))), (.int (own_rem (i3 &&& (2147483647 : Int32)) (9 : Int32)))])) _
  refine XS.isub X0.here hx rfl (hb hby at_105) rfl ?_
  show Steps p.tables e below (T0.setTop (mkF m 106 #[s0, s1, s2, .val (.int i3), .val (.int i4), s5, .val (.int (own_rem (i3 &&& (2147483647 : Int32)) (9 : Int32))), s7, s8, s9, s10, s11] [(.int ((9 : Int32) - (own_rem (i3 &&& (2147483647 : Int32)) (9 : Int32)))), (.int (i4 &&& (2147483647 : Int32))), (.int (own_rem (i3 &&& (2147483647 : Int32)) (9 : Int32)))])) _
  refine own_irem X0.here hx rfl (hb hby at_106) rfl hnz106 ?_
  show Steps p.tables e below (T0.setTop (mkF m 107 #[s0, s1, s2, .val (.int i3), .val (.int i4), s5, .val (.int (own_rem (i3 &&& (2147483647 : Int32)) (9 : Int32))), s7, s8, s9, s10, s11] [(.int (own_rem (i4 &&& (2147483647 : Int32)) ((9 : Int32) - (own_rem (i3 &&& (2147483647 : Int32)) (9 : Int32))))), (.int (own_rem (i3 &&& (2147483647 : Int32)) (9 : Int32)))])) _
  refine XS.iadd X0.here hx rfl (hb hby at_107) rfl ?_
  show Steps p.tables e below (T0.setTop (mkF m 108 #[s0, s1, s2, .val (.int i3), .val (.int i4), s5, .val (.int (own_rem (i3 &&& (2147483647 : Int32)) (9 : Int32))), s7, s8, s9, s10, s11] [(.int ((own_rem (i3 &&& (2147483647 : Int32)) (9 : Int32)) + (own_rem (i4 &&& (2147483647 : Int32)) ((9 : Int32) - (own_rem (i3 &&& (2147483647 : Int32)) (9 : Int32))))))])) _
  refine XS.istore X0.here hx rfl (hb hby at_108) rfl (l' := #[s0, s1, s2, .val (.int i3), .val (.int i4), s5, .val (.int (own_rem (i3 &&& (2147483647 : Int32)) (9 : Int32))), .val (.int ((own_rem (i3 &&& (2147483647 : Int32)) (9 : Int32)) + (own_rem (i4 &&& (2147483647 : Int32)) ((9 : Int32) - (own_rem (i3 &&& (2147483647 : Int32)) (9 : Int32)))))), s8, s9, s10, s11]) (os0_108 hs7) ?_
  exact kt

set_option maxRecDepth 65536 in
set_option maxHeartbeats 40000000 in
theorem tn0_110_144 {p : Program} {l : Launch} {e : Env} {R : Room} {s : State} {m : MethodId} {args : Array Value} {below : List Frame} {meth : Method} {c : Code} {T0 : State} {locs : List Loc} {cells slots : Nat} {Z : State} {a0 : Array Value} {h0 : Heap} (i0 : Int32) (s1 : Slot) (s2 : Slot) (s3 : Slot) (s4 : Slot) (s5 : Slot) (s6 : Slot) (s7 : Slot) (s8 : Slot) (s9 : Slot) (s10 : Slot) (s11 : Slot) (w5 : Addr)
    (X0 : Stand p l e R s m args below meth c T0 locs cells slots) (hx : p.tables.exec = Jvm.exec) (hZ : Z.Warmed39 s.vm) (hw : ∀ d ∈ tables_1, d.before a0 Z = true) (hby : c.code = code) (hml : c.maxLocals = 12) (hown : s.vm.findClass "com/example/olm/olm/siard/CellTypeLengthPinLaw" = some m.cls) (e0 : T0.heap = h0) (hs8 : One s8) (S_CLOB : Sta Z h0 "com/example/olm/olm/siard/CellType" "CLOB" "Lcom/example/olm/olm/siard/CellType;" (.ref w5)) (hs9 : One s9) (hc113 : ¬ ((i0 &&& (1 : Int32)) = (0 : Int32))) (hc125 : ¬ ((1 : Int32) = (0 : Int32))) (hc141 : ¬ ((1 : Int32) = (0 : Int32))) :
    ∃ (T' : State), Stand p l e R s m args below meth c T' locs cells slots ∧ T'.heap = h0 ∧
      ∀ target, Steps p.tables e below (T'.setTop (mkF m 144 #[.val (.int i0), s1, s2, s3, s4, s5, s6, s7, .val (.int (1 : Int32)), .val (.ref w5), s10, s11] [])) target → Steps p.tables e below (T0.setTop (mkF m 110 #[.val (.int i0), s1, s2, s3, s4, s5, s6, s7, s8, s9, s10, s11] [])) target := by
  obtain ⟨T6, X6, e6, st6⟩ := getS2 X0 hx hZ hown (host := "") (Or.inl (hw _ (List.mem_of_getElem? (i := 12) rfl))) Via.refl e0 S_CLOB (g := (mkF m 128 #[.val (.int i0), s1, s2, s3, s4, s5, s6, s7, .val (.int (1 : Int32)), s9, s10, s11] [])) rfl (hb hby at_128)
  refine ⟨T6, X6, e6, fun target kt => ?_⟩
  show Steps p.tables e below (T0.setTop (mkF m 110 #[.val (.int i0), s1, s2, s3, s4, s5, s6, s7, s8, s9, s10, s11] [])) _
  refine XS.iloadN X0.here hx rfl (hb hby at_110) rfl ?_
  show Steps p.tables e below (T0.setTop (mkF m 111 #[.val (.int i0), s1, s2, s3, s4, s5, s6, s7, s8, s9, s10, s11] [(.int i0)])) _
  refine XS.iconst X0.here hx rfl (hb hby at_111) ?_
  show Steps p.tables e below (T0.setTop (mkF m 112 #[.val (.int i0), s1, s2, s3, s4, s5, s6, s7, s8, s9, s10, s11] [(.int (1 : Int32)), (.int i0)])) _
  refine XS.iand X0.here hx rfl (hb hby at_112) rfl ?_
  show Steps p.tables e below (T0.setTop (mkF m 113 #[.val (.int i0), s1, s2, s3, s4, s5, s6, s7, s8, s9, s10, s11] [(.int (i0 &&& (1 : Int32)))])) _
  refine XS.ifNo X0.here hx rfl (hb hby at_113) rfl ((if0 _ _).trans (feq hc113).1) ?_
  show Steps p.tables e below (T0.setTop (mkF m 116 #[.val (.int i0), s1, s2, s3, s4, s5, s6, s7, s8, s9, s10, s11] [])) _
  refine XS.iconst X0.here hx rfl (hb hby at_116) ?_
  show Steps p.tables e below (T0.setTop (mkF m 117 #[.val (.int i0), s1, s2, s3, s4, s5, s6, s7, s8, s9, s10, s11] [(.int (1 : Int32))])) _
  refine XS.goto X0.here hx rfl (pc0 := 117) (pc' := 121) rfl (hb hby at_117) (by decide) (by decide) ?_
  show Steps p.tables e below (T0.setTop (mkF m 121 #[.val (.int i0), s1, s2, s3, s4, s5, s6, s7, s8, s9, s10, s11] [(.int (1 : Int32))])) _
  refine XS.istore X0.here hx rfl (hb hby at_121) rfl (l' := #[.val (.int i0), s1, s2, s3, s4, s5, s6, s7, .val (.int (1 : Int32)), s9, s10, s11]) (os0_121 hs8) ?_
  show Steps p.tables e below (T0.setTop (mkF m 123 #[.val (.int i0), s1, s2, s3, s4, s5, s6, s7, .val (.int (1 : Int32)), s9, s10, s11] [])) _
  refine XS.iload X0.here hx rfl (hb hby at_123) rfl ?_
  show Steps p.tables e below (T0.setTop (mkF m 125 #[.val (.int i0), s1, s2, s3, s4, s5, s6, s7, .val (.int (1 : Int32)), s9, s10, s11] [(.int (1 : Int32))])) _
  refine XS.ifNo X0.here hx rfl (hb hby at_125) rfl ((if0 _ _).trans (feq hc125).1) ?_
  show Steps p.tables e below (T0.setTop (mkF m 128 #[.val (.int i0), s1, s2, s3, s4, s5, s6, s7, .val (.int (1 : Int32)), s9, s10, s11] [])) _
  refine st6 _ ?_
  show Steps p.tables e below (T6.setTop (mkF m 131 #[.val (.int i0), s1, s2, s3, s4, s5, s6, s7, .val (.int (1 : Int32)), s9, s10, s11] [(.ref w5)])) _
  refine XS.goto X6.here hx rfl (pc0 := 131) (pc' := 137) rfl (hb hby at_131) (by decide) (by decide) ?_
  show Steps p.tables e below (T6.setTop (mkF m 137 #[.val (.int i0), s1, s2, s3, s4, s5, s6, s7, .val (.int (1 : Int32)), s9, s10, s11] [(.ref w5)])) _
  refine XS.astore X6.here hx rfl (hb hby at_137) rfl rfl (l' := #[.val (.int i0), s1, s2, s3, s4, s5, s6, s7, .val (.int (1 : Int32)), .val (.ref w5), s10, s11]) (os0_137 hs9) ?_
  show Steps p.tables e below (T6.setTop (mkF m 139 #[.val (.int i0), s1, s2, s3, s4, s5, s6, s7, .val (.int (1 : Int32)), .val (.ref w5), s10, s11] [])) _
  refine XS.iload X6.here hx rfl (hb hby at_139) rfl ?_
  show Steps p.tables e below (T6.setTop (mkF m 141 #[.val (.int i0), s1, s2, s3, s4, s5, s6, s7, .val (.int (1 : Int32)), .val (.ref w5), s10, s11] [(.int (1 : Int32))])) _
  refine XS.ifNo X6.here hx rfl (hb hby at_141) rfl ((if0 _ _).trans (feq hc141).1) ?_
  exact kt

set_option maxRecDepth 65536 in
set_option maxHeartbeats 40000000 in
theorem tn0_110_247 {p : Program} {l : Launch} {e : Env} {R : Room} {s : State} {m : MethodId} {args : Array Value} {below : List Frame} {meth : Method} {c : Code} {T0 : State} {locs : List Loc} {cells slots : Nat} {Z : State} {a0 : Array Value} {h0 : Heap} (i0 : Int32) (s1 : Slot) (s2 : Slot) (s3 : Slot) (s4 : Slot) (s5 : Slot) (i6 : Int32) (i7 : Int32) (s8 : Slot) (s9 : Slot)  (w5 : Addr)
    (X0 : Stand p l e R s m args below meth c T0 locs cells slots) (hx : p.tables.exec = Jvm.exec) (hZ : Z.Warmed39 s.vm) (hw : ∀ d ∈ tables_1, d.before a0 Z = true) (hby : c.code = code) (hml : c.maxLocals = 12) (hown : s.vm.findClass "com/example/olm/olm/siard/CellTypeLengthPinLaw" = some m.cls) (e0 : T0.heap = h0) (hs8 : One s8) (S_BLOB : Sta Z h0 "com/example/olm/olm/siard/CellType" "BLOB" "Lcom/example/olm/olm/siard/CellType;" (.ref w5)) (hs9 : One s9) (hc113 : (i0 &&& (1 : Int32)) = (0 : Int32)) :
    ∃ (T' : State), Stand p l e R s m args below meth c T' locs cells slots ∧ T'.heap = h0 ∧
      ∀ target, Steps p.tables e below (T'.setTop (mkF m 247 #[.val (.int i0), s1, s2, s3, s4, s5, .val (.int i6), .val (.int i7), .val (.int (0 : Int32)), .val (.ref w5), .val (.long ((i7 - i6).toInt64)), .second] [])) target → Steps p.tables e below (T0.setTop (mkF m 110 #[.val (.int i0), s1, s2, s3, s4, s5, .val (.int i6), .val (.int i7), s8, s9, .unset, .unset] [])) target := by
  obtain ⟨T6, X6, e6, st6⟩ := getS2 X0 hx hZ hown (host := "") (Or.inl (hw _ (List.mem_of_getElem? (i := 2) rfl))) Via.refl e0 S_BLOB (g := (mkF m 134 #[.val (.int i0), s1, s2, s3, s4, s5, .val (.int i6), .val (.int i7), .val (.int (0 : Int32)), s9, .unset, .unset] [])) rfl (hb hby at_134)
  refine ⟨T6, X6, e6, fun target kt => ?_⟩
  show Steps p.tables e below (T0.setTop (mkF m 110 #[.val (.int i0), s1, s2, s3, s4, s5, .val (.int i6), .val (.int i7), s8, s9, .unset, .unset] [])) _
  refine XS.iloadN X0.here hx rfl (hb hby at_110) rfl ?_
  show Steps p.tables e below (T0.setTop (mkF m 111 #[.val (.int i0), s1, s2, s3, s4, s5, .val (.int i6), .val (.int i7), s8, s9, .unset, .unset] [(.int i0)])) _
  refine XS.iconst X0.here hx rfl (hb hby at_111) ?_
  show Steps p.tables e below (T0.setTop (mkF m 112 #[.val (.int i0), s1, s2, s3, s4, s5, .val (.int i6), .val (.int i7), s8, s9, .unset, .unset] [(.int (1 : Int32)), (.int i0)])) _
  refine XS.iand X0.here hx rfl (hb hby at_112) rfl ?_
  show Steps p.tables e below (T0.setTop (mkF m 113 #[.val (.int i0), s1, s2, s3, s4, s5, .val (.int i6), .val (.int i7), s8, s9, .unset, .unset] [(.int (i0 &&& (1 : Int32)))])) _
  refine XS.ifYes X0.here hx rfl (pc0 := 113) (pc' := 120) rfl (hb hby at_113) rfl ((if0 _ _).trans (teq hc113).1) (by decide) (by decide) ?_
  show Steps p.tables e below (T0.setTop (mkF m 120 #[.val (.int i0), s1, s2, s3, s4, s5, .val (.int i6), .val (.int i7), s8, s9, .unset, .unset] [])) _
  refine XS.iconst X0.here hx rfl (hb hby at_120) ?_
  show Steps p.tables e below (T0.setTop (mkF m 121 #[.val (.int i0), s1, s2, s3, s4, s5, .val (.int i6), .val (.int i7), s8, s9, .unset, .unset] [(.int (0 : Int32))])) _
  refine XS.istore X0.here hx rfl (hb hby at_121) rfl (l' := #[.val (.int i0), s1, s2, s3, s4, s5, .val (.int i6), .val (.int i7), .val (.int (0 : Int32)), s9, .unset, .unset]) (os0_121 hs8) ?_
  show Steps p.tables e below (T0.setTop (mkF m 123 #[.val (.int i0), s1, s2, s3, s4, s5, .val (.int i6), .val (.int i7), .val (.int (0 : Int32)), s9, .unset, .unset] [])) _
  refine XS.iload X0.here hx rfl (hb hby at_123) rfl ?_
  show Steps p.tables e below (T0.setTop (mkF m 125 #[.val (.int i0), s1, s2, s3, s4, s5, .val (.int i6), .val (.int i7), .val (.int (0 : Int32)), s9, .unset, .unset] [(.int (0 : Int32))])) _
  refine XS.ifYes X0.here hx rfl (pc0 := 125) (pc' := 134) rfl (hb hby at_125) rfl ((if0 _ _).trans (teq (rfl : (0 : Int32) = (0 : Int32))).1) (by decide) (by decide) ?_
  show Steps p.tables e below (T0.setTop (mkF m 134 #[.val (.int i0), s1, s2, s3, s4, s5, .val (.int i6), .val (.int i7), .val (.int (0 : Int32)), s9, .unset, .unset] [])) _
  refine st6 _ ?_
  show Steps p.tables e below (T6.setTop (mkF m 137 #[.val (.int i0), s1, s2, s3, s4, s5, .val (.int i6), .val (.int i7), .val (.int (0 : Int32)), s9, .unset, .unset] [(.ref w5)])) _
  refine XS.astore X6.here hx rfl (hb hby at_137) rfl rfl (l' := #[.val (.int i0), s1, s2, s3, s4, s5, .val (.int i6), .val (.int i7), .val (.int (0 : Int32)), .val (.ref w5), .unset, .unset]) (os0_137 hs9) ?_
  show Steps p.tables e below (T6.setTop (mkF m 139 #[.val (.int i0), s1, s2, s3, s4, s5, .val (.int i6), .val (.int i7), .val (.int (0 : Int32)), .val (.ref w5), .unset, .unset] [])) _
  refine XS.iload X6.here hx rfl (hb hby at_139) rfl ?_
  show Steps p.tables e below (T6.setTop (mkF m 141 #[.val (.int i0), s1, s2, s3, s4, s5, .val (.int i6), .val (.int i7), .val (.int (0 : Int32)), .val (.ref w5), .unset, .unset] [(.int (0 : Int32))])) _
  refine XS.ifYes X6.here hx rfl (pc0 := 141) (pc' := 239) rfl (hb hby at_141) rfl ((if0 _ _).trans (teq (rfl : (0 : Int32) = (0 : Int32))).1) (by decide) (by decide) ?_
  show Steps p.tables e below (T6.setTop (mkF m 239 #[.val (.int i0), s1, s2, s3, s4, s5, .val (.int i6), .val (.int i7), .val (.int (0 : Int32)), .val (.ref w5), .unset, .unset] [])) _
  refine XS.iload X6.here hx rfl (hb hby at_239) rfl ?_
  show Steps p.tables e below (T6.setTop (mkF m 241 #[.val (.int i0), s1, s2, s3, s4, s5, .val (.int i6), .val (.int i7), .val (.int (0 : Int32)), .val (.ref w5), .unset, .unset] [(.int i7)])) _
  refine XS.iload X6.here hx rfl (hb hby at_241) rfl ?_
  show Steps p.tables e below (T6.setTop (mkF m 243 #[.val (.int i0), s1, s2, s3, s4, s5, .val (.int i6), .val (.int i7), .val (.int (0 : Int32)), .val (.ref w5), .unset, .unset] [(.int i6), (.int i7)])) _
  refine XS.isub X6.here hx rfl (hb hby at_243) rfl ?_
  show Steps p.tables e below (T6.setTop (mkF m 244 #[.val (.int i0), s1, s2, s3, s4, s5, .val (.int i6), .val (.int i7), .val (.int (0 : Int32)), .val (.ref w5), .unset, .unset] [(.int (i7 - i6))])) _
  refine XS.i2l X6.here hx rfl (hb hby at_244) rfl ?_
  show Steps p.tables e below (T6.setTop (mkF m 245 #[.val (.int i0), s1, s2, s3, s4, s5, .val (.int i6), .val (.int i7), .val (.int (0 : Int32)), .val (.ref w5), .unset, .unset] [(.long ((i7 - i6).toInt64))])) _
  refine XS.lstore X6.here hx rfl (hb hby at_245) rfl (l' := #[.val (.int i0), s1, s2, s3, s4, s5, .val (.int i6), .val (.int i7), .val (.int (0 : Int32)), .val (.ref w5), .val (.long ((i7 - i6).toInt64)), .second]) rfl ?_
  exact kt

set_option maxRecDepth 65536 in
set_option maxHeartbeats 40000000 in
theorem tn0_144_247 {p : Program} {l : Launch} {e : Env} {s : State} {m : MethodId} {args : Array Value} {below : List Frame} {meth : Method} {c : Code} {T0 : State} {locs : List Loc} {Z : State} {a0 : Array Value} {h0 : Heap} (s0 : Slot) (s1 : Slot) (s2 : Slot) (s3 : Slot) (s4 : Slot) (o5 : Addr) (f t : Nat) (kb : ClassId) (xs : List Int32) (n0 : Nat) (s8 : Slot) (s9 : Slot) 
    (X0 : Stand p l e room_1 s m args below meth c T0 locs 1 8) (hx : p.tables.exec = Jvm.exec) (hZ : Z.Warmed39 s.vm) (hw : ∀ d ∈ tables_1, d.before a0 Z = true) (hby : c.code = code) (hml : c.maxLocals = 12) (hown : s.vm.findClass "com/example/olm/olm/siard/CellTypeLengthPinLaw" = some m.cls) (e0 : T0.heap = h0) (Z0 : n0 ≤ h0.size) (N0 : Fr n0 locs) (hf : f ≤ 8) (ht : t ≤ 8) (V : Arv Z h0 o5 kb .byte (8 : Int32) (xs.map Value.int) (.int 0)) :
    ∃ (T' : State) (locs' : List Loc), Stand p l e room_1 s m args below meth c T' locs' 1 8 ∧ T'.heap = h0 ∧ Fr n0 locs' ∧
      ∀ target, Steps p.tables e below (T'.setTop (mkF m 247 #[s0, s1, s2, s3, s4, .val (.ref o5), .val (.int (Int32.ofNat f)), .val (.int (Int32.ofNat t)), s8, s9, .val (.long (((((((((Int32.ofNat (own_s xs 0 f t)) + (Int32.ofNat (own_s xs 1 f t))) + (Int32.ofNat (own_s xs 2 f t))) + (Int32.ofNat (own_s xs 3 f t))) + (Int32.ofNat (own_s xs 4 f t))) + (Int32.ofNat (own_s xs 5 f t))) + (Int32.ofNat (own_s xs 6 f t))) + (Int32.ofNat (own_s xs 7 f t))).toInt64)), .second] [])) target → Steps p.tables e below (T0.setTop (mkF m 144 #[s0, s1, s2, s3, s4, .val (.ref o5), .val (.int (Int32.ofNat f)), .val (.int (Int32.ofNat t)), s8, s9, .unset, .unset] [])) target := by
  obtain ⟨_, _, ⟨T5, L5, k5, n5⟩, -, X5, ⟨Lc5, hQ5, l5, y5, z5⟩, st5⟩ := Jvm.LawKit.callS X0 hx (y := (⟨"com/example/olm/olm/siard/CellTypeLengthPinLaw", "starts", "([BIII)I"⟩ : MethodName)) hown (mvT hZ (hw _ (List.mem_of_getElem? (i := 13) rfl))) (mvT hZ (hw _ (List.mem_of_getElem? (i := 14) rfl))) (mvT hZ (hw _ (List.mem_of_getElem? (i := 15) rfl))) (mvT hZ (hw _ (List.mem_of_getElem? (i := 16) rfl))) (by decide) (backOf (W := 0) (rm2 l Z a0 hw [] o5 kb xs 0 f t  h0 n0 Z0 (by decide) hf ht V) hZ (hw _ (List.mem_of_getElem? (i := 16) rfl)) (hw _ (List.mem_of_getElem? (i := 15) rfl)) (by decide) (by decide)) (g := (mkF m 151 #[s0, s1, s2, s3, s4, .val (.ref o5), .val (.int (Int32.ofNat f)), .val (.int (Int32.ofNat t)), s8, s9, .unset, .unset] [(.int (Int32.ofNat t)), (.int (Int32.ofNat f)), (.int (0 : Int32)), (.ref o5)])) rfl (by rw [hml]; rfl) (argsL := [(.ref o5), (.int (0 : Int32)), (.int (Int32.ofNat f)), (.int (Int32.ofNat t))]) (rest := []) (lenOf pd_0_1 rfl) rfl (by show 2 * 0 + _ ≤ _; exact Nat.le_of_eq rfl) (hb hby at_151) (fun _ _ => ⟨rfl, e0, (by decide : 1 + 0 ≤ _), (by decide : 8 + 0 ≤ _)⟩)
  dsimp only [Pt.U, Pt.locs, Pt.cells, Pt.slots] at X5 l5 y5 z5 st5 hQ5
  subst l5 y5 z5
  obtain ⟨rfl, N5q, e5⟩ := hQ5      -- what it returned, that it wrote nothing old, and the rest of your Q2
  have N5 := Fr.app N0 N5q
  have q5 : T5.heap = h0 := e5
  obtain ⟨_, _, ⟨T6, L6, k6, n6⟩, -, X6, ⟨Lc6, hQ6, l6, y6, z6⟩, st6⟩ := Jvm.LawKit.callS X5 hx (y := (⟨"com/example/olm/olm/siard/CellTypeLengthPinLaw", "starts", "([BIII)I"⟩ : MethodName)) hown (mvT hZ (hw _ (List.mem_of_getElem? (i := 13) rfl))) (mvT hZ (hw _ (List.mem_of_getElem? (i := 14) rfl))) (mvT hZ (hw _ (List.mem_of_getElem? (i := 15) rfl))) (mvT hZ (hw _ (List.mem_of_getElem? (i := 16) rfl))) (by decide) (backOf (W := 1) (rm2 l Z a0 hw [] o5 kb xs 1 f t  T5.heap n0 (by rw [q5]; exact Z0) (by decide) hf ht (by rw [q5]; exact V)) hZ (hw _ (List.mem_of_getElem? (i := 16) rfl)) (hw _ (List.mem_of_getElem? (i := 15) rfl)) (by decide) (by decide)) (g := (mkF m 161 #[s0, s1, s2, s3, s4, .val (.ref o5), .val (.int (Int32.ofNat f)), .val (.int (Int32.ofNat t)), s8, s9, .unset, .unset] [(.int (Int32.ofNat t)), (.int (Int32.ofNat f)), (.int (1 : Int32)), (.ref o5), (.int (Int32.ofNat (own_s xs 0 f t)))])) rfl (by rw [hml]; rfl) (argsL := [(.ref o5), (.int (1 : Int32)), (.int (Int32.ofNat f)), (.int (Int32.ofNat t))]) (rest := [(.int (Int32.ofNat (own_s xs 0 f t)))]) (lenOf pd_0_1 rfl) rfl (by show 2 * 0 + _ ≤ _; exact Nat.le_of_eq rfl) (hb hby at_161) (fun _ _ => ⟨rfl, rfl, (by decide : 1 + 0 ≤ _), (by decide : 8 + 0 ≤ _)⟩)
  dsimp only [Pt.U, Pt.locs, Pt.cells, Pt.slots] at X6 l6 y6 z6 st6 hQ6
  subst l6 y6 z6
  obtain ⟨rfl, N6q, e6⟩ := hQ6      -- what it returned, that it wrote nothing old, and the rest of your Q2
  have N6 := Fr.app N5 N6q
  have q6 : T6.heap = h0 := e6.trans q5
  obtain ⟨_, _, ⟨T7, L7, k7, n7⟩, -, X7, ⟨Lc7, hQ7, l7, y7, z7⟩, st7⟩ := Jvm.LawKit.callS X6 hx (y := (⟨"com/example/olm/olm/siard/CellTypeLengthPinLaw", "starts", "([BIII)I"⟩ : MethodName)) hown (mvT hZ (hw _ (List.mem_of_getElem? (i := 13) rfl))) (mvT hZ (hw _ (List.mem_of_getElem? (i := 14) rfl))) (mvT hZ (hw _ (List.mem_of_getElem? (i := 15) rfl))) (mvT hZ (hw _ (List.mem_of_getElem? (i := 16) rfl))) (by decide) (backOf (W := 1) (rm2 l Z a0 hw [] o5 kb xs 2 f t  T6.heap n0 (by rw [q6]; exact Z0) (by decide) hf ht (by rw [q6]; exact V)) hZ (hw _ (List.mem_of_getElem? (i := 16) rfl)) (hw _ (List.mem_of_getElem? (i := 15) rfl)) (by decide) (by decide)) (g := (mkF m 172 #[s0, s1, s2, s3, s4, .val (.ref o5), .val (.int (Int32.ofNat f)), .val (.int (Int32.ofNat t)), s8, s9, .unset, .unset] [(.int (Int32.ofNat t)), (.int (Int32.ofNat f)), (.int (2 : Int32)), (.ref o5), (.int ((Int32.ofNat (own_s xs 0 f t)) + (Int32.ofNat (own_s xs 1 f t))))])) rfl (by rw [hml]; rfl) (argsL := [(.ref o5), (.int (2 : Int32)), (.int (Int32.ofNat f)), (.int (Int32.ofNat t))]) (rest := [(.int ((Int32.ofNat (own_s xs 0 f t)) + (Int32.ofNat (own_s xs 1 f t))))]) (lenOf pd_0_1 rfl) rfl (by show 2 * 0 + _ ≤ _; exact Nat.le_of_eq rfl) (hb hby at_172) (fun _ _ => ⟨rfl, rfl, (by decide : 1 + 0 ≤ _), (by decide : 8 + 0 ≤ _)⟩)
  dsimp only [Pt.U, Pt.locs, Pt.cells, Pt.slots] at X7 l7 y7 z7 st7 hQ7
  subst l7 y7 z7
  obtain ⟨rfl, N7q, e7⟩ := hQ7      -- what it returned, that it wrote nothing old, and the rest of your Q2
  have N7 := Fr.app N6 N7q
  have q7 : T7.heap = h0 := e7.trans q6
  obtain ⟨_, _, ⟨T8, L8, k8, n8⟩, -, X8, ⟨Lc8, hQ8, l8, y8, z8⟩, st8⟩ := Jvm.LawKit.callS X7 hx (y := (⟨"com/example/olm/olm/siard/CellTypeLengthPinLaw", "starts", "([BIII)I"⟩ : MethodName)) hown (mvT hZ (hw _ (List.mem_of_getElem? (i := 13) rfl))) (mvT hZ (hw _ (List.mem_of_getElem? (i := 14) rfl))) (mvT hZ (hw _ (List.mem_of_getElem? (i := 15) rfl))) (mvT hZ (hw _ (List.mem_of_getElem? (i := 16) rfl))) (by decide) (backOf (W := 1) (rm2 l Z a0 hw [] o5 kb xs 3 f t  T7.heap n0 (by rw [q7]; exact Z0) (by decide) hf ht (by rw [q7]; exact V)) hZ (hw _ (List.mem_of_getElem? (i := 16) rfl)) (hw _ (List.mem_of_getElem? (i := 15) rfl)) (by decide) (by decide)) (g := (mkF m 183 #[s0, s1, s2, s3, s4, .val (.ref o5), .val (.int (Int32.ofNat f)), .val (.int (Int32.ofNat t)), s8, s9, .unset, .unset] [(.int (Int32.ofNat t)), (.int (Int32.ofNat f)), (.int (3 : Int32)), (.ref o5), (.int (((Int32.ofNat (own_s xs 0 f t)) + (Int32.ofNat (own_s xs 1 f t))) + (Int32.ofNat (own_s xs 2 f t))))])) rfl (by rw [hml]; rfl) (argsL := [(.ref o5), (.int (3 : Int32)), (.int (Int32.ofNat f)), (.int (Int32.ofNat t))]) (rest := [(.int (((Int32.ofNat (own_s xs 0 f t)) + (Int32.ofNat (own_s xs 1 f t))) + (Int32.ofNat (own_s xs 2 f t))))]) (lenOf pd_0_1 rfl) rfl (by show 2 * 0 + _ ≤ _; exact Nat.le_of_eq rfl) (hb hby at_183) (fun _ _ => ⟨rfl, rfl, (by decide : 1 + 0 ≤ _), (by decide : 8 + 0 ≤ _)⟩)
  dsimp only [Pt.U, Pt.locs, Pt.cells, Pt.slots] at X8 l8 y8 z8 st8 hQ8
  subst l8 y8 z8
  obtain ⟨rfl, N8q, e8⟩ := hQ8      -- what it returned, that it wrote nothing old, and the rest of your Q2
  have N8 := Fr.app N7 N8q
  have q8 : T8.heap = h0 := e8.trans q7
  obtain ⟨_, _, ⟨T9, L9, k9, n9⟩, -, X9, ⟨Lc9, hQ9, l9, y9, z9⟩, st9⟩ := Jvm.LawKit.callS X8 hx (y := (⟨"com/example/olm/olm/siard/CellTypeLengthPinLaw", "starts", "([BIII)I"⟩ : MethodName)) hown (mvT hZ (hw _ (List.mem_of_getElem? (i := 13) rfl))) (mvT hZ (hw _ (List.mem_of_getElem? (i := 14) rfl))) (mvT hZ (hw _ (List.mem_of_getElem? (i := 15) rfl))) (mvT hZ (hw _ (List.mem_of_getElem? (i := 16) rfl))) (by decide) (backOf (W := 1) (rm2 l Z a0 hw [] o5 kb xs 4 f t  T8.heap n0 (by rw [q8]; exact Z0) (by decide) hf ht (by rw [q8]; exact V)) hZ (hw _ (List.mem_of_getElem? (i := 16) rfl)) (hw _ (List.mem_of_getElem? (i := 15) rfl)) (by decide) (by decide)) (g := (mkF m 194 #[s0, s1, s2, s3, s4, .val (.ref o5), .val (.int (Int32.ofNat f)), .val (.int (Int32.ofNat t)), s8, s9, .unset, .unset] [(.int (Int32.ofNat t)), (.int (Int32.ofNat f)), (.int (4 : Int32)), (.ref o5), (.int ((((Int32.ofNat (own_s xs 0 f t)) + (Int32.ofNat (own_s xs 1 f t))) + (Int32.ofNat (own_s xs 2 f t))) + (Int32.ofNat (own_s xs 3 f t))))])) rfl (by rw [hml]; rfl) (argsL := [(.ref o5), (.int (4 : Int32)), (.int (Int32.ofNat f)), (.int (Int32.ofNat t))]) (rest := [(.int ((((Int32.ofNat (own_s xs 0 f t)) + (Int32.ofNat (own_s xs 1 f t))) + (Int32.ofNat (own_s xs 2 f t))) + (Int32.ofNat (own_s xs 3 f t))))]) (lenOf pd_0_1 rfl) rfl (by show 2 * 0 + _ ≤ _; exact Nat.le_of_eq rfl) (hb hby at_194) (fun _ _ => ⟨rfl, rfl, (by decide : 1 + 0 ≤ _), (by decide : 8 + 0 ≤ _)⟩)
  dsimp only [Pt.U, Pt.locs, Pt.cells, Pt.slots] at X9 l9 y9 z9 st9 hQ9
  subst l9 y9 z9
  obtain ⟨rfl, N9q, e9⟩ := hQ9      -- what it returned, that it wrote nothing old, and the rest of your Q2
  have N9 := Fr.app N8 N9q
  have q9 : T9.heap = h0 := e9.trans q8
  obtain ⟨_, _, ⟨T10, L10, k10, n10⟩, -, X10, ⟨Lc10, hQ10, l10, y10, z10⟩, st10⟩ := Jvm.LawKit.callS X9 hx (y := (⟨"com/example/olm/olm/siard/CellTypeLengthPinLaw", "starts", "([BIII)I"⟩ : MethodName)) hown (mvT hZ (hw _ (List.mem_of_getElem? (i := 13) rfl))) (mvT hZ (hw _ (List.mem_of_getElem? (i := 14) rfl))) (mvT hZ (hw _ (List.mem_of_getElem? (i := 15) rfl))) (mvT hZ (hw _ (List.mem_of_getElem? (i := 16) rfl))) (by decide) (backOf (W := 1) (rm2 l Z a0 hw [] o5 kb xs 5 f t  T9.heap n0 (by rw [q9]; exact Z0) (by decide) hf ht (by rw [q9]; exact V)) hZ (hw _ (List.mem_of_getElem? (i := 16) rfl)) (hw _ (List.mem_of_getElem? (i := 15) rfl)) (by decide) (by decide)) (g := (mkF m 205 #[s0, s1, s2, s3, s4, .val (.ref o5), .val (.int (Int32.ofNat f)), .val (.int (Int32.ofNat t)), s8, s9, .unset, .unset] [(.int (Int32.ofNat t)), (.int (Int32.ofNat f)), (.int (5 : Int32)), (.ref o5), (.int (((((Int32.ofNat (own_s xs 0 f t)) + (Int32.ofNat (own_s xs 1 f t))) + (Int32.ofNat (own_s xs 2 f t))) + (Int32.ofNat (own_s xs 3 f t))) + (Int32.ofNat (own_s xs 4 f t))))])) rfl (by rw [hml]; rfl) (argsL := [(.ref o5), (.int (5 : Int32)), (.int (Int32.ofNat f)), (.int (Int32.ofNat t))]) (rest := [(.int (((((Int32.ofNat (own_s xs 0 f t)) + (Int32.ofNat (own_s xs 1 f t))) + (Int32.ofNat (own_s xs 2 f t))) + (Int32.ofNat (own_s xs 3 f t))) + (Int32.ofNat (own_s xs 4 f t))))]) (lenOf pd_0_1 rfl) rfl (by show 2 * 0 + _ ≤ _; exact Nat.le_of_eq rfl) (hb hby at_205) (fun _ _ => ⟨rfl, rfl, (by decide : 1 + 0 ≤ _), (by decide : 8 + 0 ≤ _)⟩)
  dsimp only [Pt.U, Pt.locs, Pt.cells, Pt.slots] at X10 l10 y10 z10 st10 hQ10
  subst l10 y10 z10
  obtain ⟨rfl, N10q, e10⟩ := hQ10      -- what it returned, that it wrote nothing old, and the rest of your Q2
  have N10 := Fr.app N9 N10q
  have q10 : T10.heap = h0 := e10.trans q9
  obtain ⟨_, _, ⟨T11, L11, k11, n11⟩, -, X11, ⟨Lc11, hQ11, l11, y11, z11⟩, st11⟩ := Jvm.LawKit.callS X10 hx (y := (⟨"com/example/olm/olm/siard/CellTypeLengthPinLaw", "starts", "([BIII)I"⟩ : MethodName)) hown (mvT hZ (hw _ (List.mem_of_getElem? (i := 13) rfl))) (mvT hZ (hw _ (List.mem_of_getElem? (i := 14) rfl))) (mvT hZ (hw _ (List.mem_of_getElem? (i := 15) rfl))) (mvT hZ (hw _ (List.mem_of_getElem? (i := 16) rfl))) (by decide) (backOf (W := 1) (rm2 l Z a0 hw [] o5 kb xs 6 f t  T10.heap n0 (by rw [q10]; exact Z0) (by decide) hf ht (by rw [q10]; exact V)) hZ (hw _ (List.mem_of_getElem? (i := 16) rfl)) (hw _ (List.mem_of_getElem? (i := 15) rfl)) (by decide) (by decide)) (g := (mkF m 217 #[s0, s1, s2, s3, s4, .val (.ref o5), .val (.int (Int32.ofNat f)), .val (.int (Int32.ofNat t)), s8, s9, .unset, .unset] [(.int (Int32.ofNat t)), (.int (Int32.ofNat f)), (.int (6 : Int32)), (.ref o5), (.int ((((((Int32.ofNat (own_s xs 0 f t)) + (Int32.ofNat (own_s xs 1 f t))) + (Int32.ofNat (own_s xs 2 f t))) + (Int32.ofNat (own_s xs 3 f t))) + (Int32.ofNat (own_s xs 4 f t))) + (Int32.ofNat (own_s xs 5 f t))))])) rfl (by rw [hml]; rfl) (argsL := [(.ref o5), (.int (6 : Int32)), (.int (Int32.ofNat f)), (.int (Int32.ofNat t))]) (rest := [(.int ((((((Int32.ofNat (own_s xs 0 f t)) + (Int32.ofNat (own_s xs 1 f t))) + (Int32.ofNat (own_s xs 2 f t))) + (Int32.ofNat (own_s xs 3 f t))) + (Int32.ofNat (own_s xs 4 f t))) + (Int32.ofNat (own_s xs 5 f t))))]) (lenOf pd_0_1 rfl) rfl (by show 2 * 0 + _ ≤ _; exact Nat.le_of_eq rfl) (hb hby at_217) (fun _ _ => ⟨rfl, rfl, (by decide : 1 + 0 ≤ _), (by decide : 8 + 0 ≤ _)⟩)
  dsimp only [Pt.U, Pt.locs, Pt.cells, Pt.slots] at X11 l11 y11 z11 st11 hQ11
  subst l11 y11 z11
  obtain ⟨rfl, N11q, e11⟩ := hQ11      -- what it returned, that it wrote nothing old, and the rest of your Q2
  have N11 := Fr.app N10 N11q
  have q11 : T11.heap = h0 := e11.trans q10
  obtain ⟨_, _, ⟨T12, L12, k12, n12⟩, -, X12, ⟨Lc12, hQ12, l12, y12, z12⟩, st12⟩ := Jvm.LawKit.callS X11 hx (y := (⟨"com/example/olm/olm/siard/CellTypeLengthPinLaw", "starts", "([BIII)I"⟩ : MethodName)) hown (mvT hZ (hw _ (List.mem_of_getElem? (i := 13) rfl))) (mvT hZ (hw _ (List.mem_of_getElem? (i := 14) rfl))) (mvT hZ (hw _ (List.mem_of_getElem? (i := 15) rfl))) (mvT hZ (hw _ (List.mem_of_getElem? (i := 16) rfl))) (by decide) (backOf (W := 1) (rm2 l Z a0 hw [] o5 kb xs 7 f t  T11.heap n0 (by rw [q11]; exact Z0) (by decide) hf ht (by rw [q11]; exact V)) hZ (hw _ (List.mem_of_getElem? (i := 16) rfl)) (hw _ (List.mem_of_getElem? (i := 15) rfl)) (by decide) (by decide)) (g := (mkF m 229 #[s0, s1, s2, s3, s4, .val (.ref o5), .val (.int (Int32.ofNat f)), .val (.int (Int32.ofNat t)), s8, s9, .unset, .unset] [(.int (Int32.ofNat t)), (.int (Int32.ofNat f)), (.int (7 : Int32)), (.ref o5), (.int (((((((Int32.ofNat (own_s xs 0 f t)) + (Int32.ofNat (own_s xs 1 f t))) + (Int32.ofNat (own_s xs 2 f t))) + (Int32.ofNat (own_s xs 3 f t))) + (Int32.ofNat (own_s xs 4 f t))) + (Int32.ofNat (own_s xs 5 f t))) + (Int32.ofNat (own_s xs 6 f t))))])) rfl (by rw [hml]; rfl) (argsL := [(.ref o5), (.int (7 : Int32)), (.int (Int32.ofNat f)), (.int (Int32.ofNat t))]) (rest := [(.int (((((((Int32.ofNat (own_s xs 0 f t)) + (Int32.ofNat (own_s xs 1 f t))) + (Int32.ofNat (own_s xs 2 f t))) + (Int32.ofNat (own_s xs 3 f t))) + (Int32.ofNat (own_s xs 4 f t))) + (Int32.ofNat (own_s xs 5 f t))) + (Int32.ofNat (own_s xs 6 f t))))]) (lenOf pd_0_1 rfl) rfl (by show 2 * 0 + _ ≤ _; exact Nat.le_of_eq rfl) (hb hby at_229) (fun _ _ => ⟨rfl, rfl, (by decide : 1 + 0 ≤ _), (by decide : 8 + 0 ≤ _)⟩)
  dsimp only [Pt.U, Pt.locs, Pt.cells, Pt.slots] at X12 l12 y12 z12 st12 hQ12
  subst l12 y12 z12
  obtain ⟨rfl, N12q, e12⟩ := hQ12      -- what it returned, that it wrote nothing old, and the rest of your Q2
  have N12 := Fr.app N11 N12q
  have q12 : T12.heap = h0 := e12.trans q11
  refine ⟨T12, _, X12, q12, N12, fun target kt => ?_⟩
  show Steps p.tables e below (T0.setTop (mkF m 144 #[s0, s1, s2, s3, s4, .val (.ref o5), .val (.int (Int32.ofNat f)), .val (.int (Int32.ofNat t)), s8, s9, .unset, .unset] [])) _
  refine XS.aload X0.here hx rfl (hb hby at_144) rfl rfl ?_
  show Steps p.tables e below (T0.setTop (mkF m 146 #[s0, s1, s2, s3, s4, .val (.ref o5), .val (.int (Int32.ofNat f)), .val (.int (Int32.ofNat t)), s8, s9, .unset, .unset] [(.ref o5)])) _
  refine XS.iconst X0.here hx rfl (hb hby at_146) ?_
  show Steps p.tables e below (T0.setTop (mkF m 147 #[s0, s1, s2, s3, s4, .val (.ref o5), .val (.int (Int32.ofNat f)), .val (.int (Int32.ofNat t)), s8, s9, .unset, .unset] [(.int (0 : Int32)), (.ref o5)])) _
  refine XS.iload X0.here hx rfl (hb hby at_147) rfl ?_
  show Steps p.tables e below (T0.setTop (mkF m 149 #[s0, s1, s2, s3, s4, .val (.ref o5), .val (.int (Int32.ofNat f)), .val (.int (Int32.ofNat t)), s8, s9, .unset, .unset] [(.int (Int32.ofNat f)), (.int (0 : Int32)), (.ref o5)])) _
  refine XS.iload X0.here hx rfl (hb hby at_149) rfl ?_
  show Steps p.tables e below (T0.setTop (mkF m 151 #[s0, s1, s2, s3, s4, .val (.ref o5), .val (.int (Int32.ofNat f)), .val (.int (Int32.ofNat t)), s8, s9, .unset, .unset] [(.int (Int32.ofNat t)), (.int (Int32.ofNat f)), (.int (0 : Int32)), (.ref o5)])) _
  refine st5 _ ?_
  show Steps p.tables e below (T5.setTop (mkF m 154 #[s0, s1, s2, s3, s4, .val (.ref o5), .val (.int (Int32.ofNat f)), .val (.int (Int32.ofNat t)), s8, s9, .unset, .unset] [(.int (Int32.ofNat (own_s xs 0 f t)))])) _
  refine XS.aload X5.here hx rfl (hb hby at_154) rfl rfl ?_
  show Steps p.tables e below (T5.setTop (mkF m 156 #[s0, s1, s2, s3, s4, .val (.ref o5), .val (.int (Int32.ofNat f)), .val (.int (Int32.ofNat t)), s8, s9, .unset, .unset] [(.ref o5), (.int (Int32.ofNat (own_s xs 0 f t)))])) _
  refine XS.iconst X5.here hx rfl (hb hby at_156) ?_
  show Steps p.tables e below (T5.setTop (mkF m 157 #[s0, s1, s2, s3, s4, .val (.ref o5), .val (.int (Int32.ofNat f)), .val (.int (Int32.ofNat t)), s8, s9, .unset, .unset] [(.int (1 : Int32)), (.ref o5), (.int (Int32.ofNat (own_s xs 0 f t)))])) _
  refine XS.iload X5.here hx rfl (hb hby at_157) rfl ?_
  show Steps p.tables e below (T5.setTop (mkF m 159 #[s0, s1, s2, s3, s4, .val (.ref o5), .val (.int (Int32.ofNat f)), .val (.int (Int32.ofNat t)), s8, s9, .unset, .unset] [(.int (Int32.ofNat f)), (.int (1 : Int32)), (.ref o5), (.int (Int32.ofNat (own_s xs 0 f t)))])) _
  refine XS.iload X5.here hx rfl (hb hby at_159) rfl ?_
  show Steps p.tables e below (T5.setTop (mkF m 161 #[s0, s1, s2, s3, s4, .val (.ref o5), .val (.int (Int32.ofNat f)), .val (.int (Int32.ofNat t)), s8, s9, .unset, .unset] [(.int (Int32.ofNat t)), (.int (Int32.ofNat f)), (.int (1 : Int32)), (.ref o5), (.int (Int32.ofNat (own_s xs 0 f t)))])) _
  refine st6 _ ?_
  show Steps p.tables e below (T6.setTop (mkF m 164 #[s0, s1, s2, s3, s4, .val (.ref o5), .val (.int (Int32.ofNat f)), .val (.int (Int32.ofNat t)), s8, s9, .unset, .unset] [(.int (Int32.ofNat (own_s xs 1 f t))), (.int (Int32.ofNat (own_s xs 0 f t)))])) _
  refine XS.iadd X6.here hx rfl (hb hby at_164) rfl ?_
  show Steps p.tables e below (T6.setTop (mkF m 165 #[s0, s1, s2, s3, s4, .val (.ref o5), .val (.int (Int32.ofNat f)), .val (.int (Int32.ofNat t)), s8, s9, .unset, .unset] [(.int ((Int32.ofNat (own_s xs 0 f t)) + (Int32.ofNat (own_s xs 1 f t))))])) _
  refine XS.aload X6.here hx rfl (hb hby at_165) rfl rfl ?_
  show Steps p.tables e below (T6.setTop (mkF m 167 #[s0, s1, s2, s3, s4, .val (.ref o5), .val (.int (Int32.ofNat f)), .val (.int (Int32.ofNat t)), s8, s9, .unset, .unset] [(.ref o5), (.int ((Int32.ofNat (own_s xs 0 f t)) + (Int32.ofNat (own_s xs 1 f t))))])) _
  refine XS.iconst X6.here hx rfl (hb hby at_167) ?_
  show Steps p.tables e below (T6.setTop (mkF m 168 #[s0, s1, s2, s3, s4, .val (.ref o5), .val (.int (Int32.ofNat f)), .val (.int (Int32.ofNat t)), s8, s9, .unset, .unset] [(.int (2 : Int32)), (.ref o5), (.int ((Int32.ofNat (own_s xs 0 f t)) + (Int32.ofNat (own_s xs 1 f t))))])) _
  refine XS.iload X6.here hx rfl (hb hby at_168) rfl ?_
  show Steps p.tables e below (T6.setTop (mkF m 170 #[s0, s1, s2, s3, s4, .val (.ref o5), .val (.int (Int32.ofNat f)), .val (.int (Int32.ofNat t)), s8, s9, .unset, .unset] [(.int (Int32.ofNat f)), (.int (2 : Int32)), (.ref o5), (.int ((Int32.ofNat (own_s xs 0 f t)) + (Int32.ofNat (own_s xs 1 f t))))])) _
  refine XS.iload X6.here hx rfl (hb hby at_170) rfl ?_
  show Steps p.tables e below (T6.setTop (mkF m 172 #[s0, s1, s2, s3, s4, .val (.ref o5), .val (.int (Int32.ofNat f)), .val (.int (Int32.ofNat t)), s8, s9, .unset, .unset] [(.int (Int32.ofNat t)), (.int (Int32.ofNat f)), (.int (2 : Int32)), (.ref o5), (.int ((Int32.ofNat (own_s xs 0 f t)) + (Int32.ofNat (own_s xs 1 f t))))])) _
  refine st7 _ ?_
  show Steps p.tables e below (T7.setTop (mkF m 175 #[s0, s1, s2, s3, s4, .val (.ref o5), .val (.int (Int32.ofNat f)), .val (.int (Int32.ofNat t)), s8, s9, .unset, .unset] [(.int (Int32.ofNat (own_s xs 2 f t))), (.int ((Int32.ofNat (own_s xs 0 f t)) + (Int32.ofNat (own_s xs 1 f t))))])) _
  refine XS.iadd X7.here hx rfl (hb hby at_175) rfl ?_
  show Steps p.tables e below (T7.setTop (mkF m 176 #[s0, s1, s2, s3, s4, .val (.ref o5), .val (.int (Int32.ofNat f)), .val (.int (Int32.ofNat t)), s8, s9, .unset, .unset] [(.int (((Int32.ofNat (own_s xs 0 f t)) + (Int32.ofNat (own_s xs 1 f t))) + (Int32.ofNat (own_s xs 2 f t))))])) _
  refine XS.aload X7.here hx rfl (hb hby at_176) rfl rfl ?_
  show Steps p.tables e below (T7.setTop (mkF m 178 #[s0, s1, s2, s3, s4, .val (.ref o5), .val (.int (Int32.ofNat f)), .val (.int (Int32.ofNat t)), s8, s9, .unset, .unset] [(.ref o5), (.int (((Int32.ofNat (own_s xs 0 f t)) + (Int32.ofNat (own_s xs 1 f t))) + (Int32.ofNat (own_s xs 2 f t))))])) _
  refine XS.iconst X7.here hx rfl (hb hby at_178) ?_
  show Steps p.tables e below (T7.setTop (mkF m 179 #[s0, s1, s2, s3, s4, .val (.ref o5), .val (.int (Int32.ofNat f)), .val (.int (Int32.ofNat t)), s8, s9, .unset, .unset] [(.int (3 : Int32)), (.ref o5), (.int (((Int32.ofNat (own_s xs 0 f t)) + (Int32.ofNat (own_s xs 1 f t))) + (Int32.ofNat (own_s xs 2 f t))))])) _
  refine XS.iload X7.here hx rfl (hb hby at_179) rfl ?_
  show Steps p.tables e below (T7.setTop (mkF m 181 #[s0, s1, s2, s3, s4, .val (.ref o5), .val (.int (Int32.ofNat f)), .val (.int (Int32.ofNat t)), s8, s9, .unset, .unset] [(.int (Int32.ofNat f)), (.int (3 : Int32)), (.ref o5), (.int (((Int32.ofNat (own_s xs 0 f t)) + (Int32.ofNat (own_s xs 1 f t))) + (Int32.ofNat (own_s xs 2 f t))))])) _
  refine XS.iload X7.here hx rfl (hb hby at_181) rfl ?_
  show Steps p.tables e below (T7.setTop (mkF m 183 #[s0, s1, s2, s3, s4, .val (.ref o5), .val (.int (Int32.ofNat f)), .val (.int (Int32.ofNat t)), s8, s9, .unset, .unset] [(.int (Int32.ofNat t)), (.int (Int32.ofNat f)), (.int (3 : Int32)), (.ref o5), (.int (((Int32.ofNat (own_s xs 0 f t)) + (Int32.ofNat (own_s xs 1 f t))) + (Int32.ofNat (own_s xs 2 f t))))])) _
  refine st8 _ ?_
  show Steps p.tables e below (T8.setTop (mkF m 186 #[s0, s1, s2, s3, s4, .val (.ref o5), .val (.int (Int32.ofNat f)), .val (.int (Int32.ofNat t)), s8, s9, .unset, .unset] [(.int (Int32.ofNat (own_s xs 3 f t))), (.int (((Int32.ofNat (own_s xs 0 f t)) + (Int32.ofNat (own_s xs 1 f t))) + (Int32.ofNat (own_s xs 2 f t))))])) _
  refine XS.iadd X8.here hx rfl (hb hby at_186) rfl ?_
  show Steps p.tables e below (T8.setTop (mkF m 187 #[s0, s1, s2, s3, s4, .val (.ref o5), .val (.int (Int32.ofNat f)), .val (.int (Int32.ofNat t)), s8, s9, .unset, .unset] [(.int ((((Int32.ofNat (own_s xs 0 f t)) + (Int32.ofNat (own_s xs 1 f t))) + (Int32.ofNat (own_s xs 2 f t))) + (Int32.ofNat (own_s xs 3 f t))))])) _
  refine XS.aload X8.here hx rfl (hb hby at_187) rfl rfl ?_
  show Steps p.tables e below (T8.setTop (mkF m 189 #[s0, s1, s2, s3, s4, .val (.ref o5), .val (.int (Int32.ofNat f)), .val (.int (Int32.ofNat t)), s8, s9, .unset, .unset] [(.ref o5), (.int ((((Int32.ofNat (own_s xs 0 f t)) + (Int32.ofNat (own_s xs 1 f t))) + (Int32.ofNat (own_s xs 2 f t))) + (Int32.ofNat (own_s xs 3 f t))))])) _
  refine XS.iconst X8.here hx rfl (hb hby at_189) ?_
  show Steps p.tables e below (T8.setTop (mkF m 190 #[s0, s1, s2, s3, s4, .val (.ref o5), .val (.int (Int32.ofNat f)), .val (.int (Int32.ofNat t)), s8, s9, .unset, .unset] [(.int (4 : Int32)), (.ref o5), (.int ((((Int32.ofNat (own_s xs 0 f t)) + (Int32.ofNat (own_s xs 1 f t))) + (Int32.ofNat (own_s xs 2 f t))) + (Int32.ofNat (own_s xs 3 f t))))])) _
  refine XS.iload X8.here hx rfl (hb hby at_190) rfl ?_
  show Steps p.tables e below (T8.setTop (mkF m 192 #[s0, s1, s2, s3, s4, .val (.ref o5), .val (.int (Int32.ofNat f)), .val (.int (Int32.ofNat t)), s8, s9, .unset, .unset] [(.int (Int32.ofNat f)), (.int (4 : Int32)), (.ref o5), (.int ((((Int32.ofNat (own_s xs 0 f t)) + (Int32.ofNat (own_s xs 1 f t))) + (Int32.ofNat (own_s xs 2 f t))) + (Int32.ofNat (own_s xs 3 f t))))])) _
  refine XS.iload X8.here hx rfl (hb hby at_192) rfl ?_
  show Steps p.tables e below (T8.setTop (mkF m 194 #[s0, s1, s2, s3, s4, .val (.ref o5), .val (.int (Int32.ofNat f)), .val (.int (Int32.ofNat t)), s8, s9, .unset, .unset] [(.int (Int32.ofNat t)), (.int (Int32.ofNat f)), (.int (4 : Int32)), (.ref o5), (.int ((((Int32.ofNat (own_s xs 0 f t)) + (Int32.ofNat (own_s xs 1 f t))) + (Int32.ofNat (own_s xs 2 f t))) + (Int32.ofNat (own_s xs 3 f t))))])) _
  refine st9 _ ?_
  show Steps p.tables e below (T9.setTop (mkF m 197 #[s0, s1, s2, s3, s4, .val (.ref o5), .val (.int (Int32.ofNat f)), .val (.int (Int32.ofNat t)), s8, s9, .unset, .unset] [(.int (Int32.ofNat (own_s xs 4 f t))), (.int ((((Int32.ofNat (own_s xs 0 f t)) + (Int32.ofNat (own_s xs 1 f t))) + (Int32.ofNat (own_s xs 2 f t))) + (Int32.ofNat (own_s xs 3 f t))))])) _
  refine XS.iadd X9.here hx rfl (hb hby at_197) rfl ?_
  show Steps p.tables e below (T9.setTop (mkF m 198 #[s0, s1, s2, s3, s4, .val (.ref o5), .val (.int (Int32.ofNat f)), .val (.int (Int32.ofNat t)), s8, s9, .unset, .unset] [(.int (((((Int32.ofNat (own_s xs 0 f t)) + (Int32.ofNat (own_s xs 1 f t))) + (Int32.ofNat (own_s xs 2 f t))) + (Int32.ofNat (own_s xs 3 f t))) + (Int32.ofNat (own_s xs 4 f t))))])) _
  refine XS.aload X9.here hx rfl (hb hby at_198) rfl rfl ?_
  show Steps p.tables e below (T9.setTop (mkF m 200 #[s0, s1, s2, s3, s4, .val (.ref o5), .val (.int (Int32.ofNat f)), .val (.int (Int32.ofNat t)), s8, s9, .unset, .unset] [(.ref o5), (.int (((((Int32.ofNat (own_s xs 0 f t)) + (Int32.ofNat (own_s xs 1 f t))) + (Int32.ofNat (own_s xs 2 f t))) + (Int32.ofNat (own_s xs 3 f t))) + (Int32.ofNat (own_s xs 4 f t))))])) _
  refine XS.iconst X9.here hx rfl (hb hby at_200) ?_
  show Steps p.tables e below (T9.setTop (mkF m 201 #[s0, s1, s2, s3, s4, .val (.ref o5), .val (.int (Int32.ofNat f)), .val (.int (Int32.ofNat t)), s8, s9, .unset, .unset] [(.int (5 : Int32)), (.ref o5), (.int (((((Int32.ofNat (own_s xs 0 f t)) + (Int32.ofNat (own_s xs 1 f t))) + (Int32.ofNat (own_s xs 2 f t))) + (Int32.ofNat (own_s xs 3 f t))) + (Int32.ofNat (own_s xs 4 f t))))])) _
  refine XS.iload X9.here hx rfl (hb hby at_201) rfl ?_
  show Steps p.tables e below (T9.setTop (mkF m 203 #[s0, s1, s2, s3, s4, .val (.ref o5), .val (.int (Int32.ofNat f)), .val (.int (Int32.ofNat t)), s8, s9, .unset, .unset] [(.int (Int32.ofNat f)), (.int (5 : Int32)), (.ref o5), (.int (((((Int32.ofNat (own_s xs 0 f t)) + (Int32.ofNat (own_s xs 1 f t))) + (Int32.ofNat (own_s xs 2 f t))) + (Int32.ofNat (own_s xs 3 f t))) + (Int32.ofNat (own_s xs 4 f t))))])) _
  refine XS.iload X9.here hx rfl (hb hby at_203) rfl ?_
  show Steps p.tables e below (T9.setTop (mkF m 205 #[s0, s1, s2, s3, s4, .val (.ref o5), .val (.int (Int32.ofNat f)), .val (.int (Int32.ofNat t)), s8, s9, .unset, .unset] [(.int (Int32.ofNat t)), (.int (Int32.ofNat f)), (.int (5 : Int32)), (.ref o5), (.int (((((Int32.ofNat (own_s xs 0 f t)) + (Int32.ofNat (own_s xs 1 f t))) + (Int32.ofNat (own_s xs 2 f t))) + (Int32.ofNat (own_s xs 3 f t))) + (Int32.ofNat (own_s xs 4 f t))))])) _
  refine st10 _ ?_
  show Steps p.tables e below (T10.setTop (mkF m 208 #[s0, s1, s2, s3, s4, .val (.ref o5), .val (.int (Int32.ofNat f)), .val (.int (Int32.ofNat t)), s8, s9, .unset, .unset] [(.int (Int32.ofNat (own_s xs 5 f t))), (.int (((((Int32.ofNat (own_s xs 0 f t)) + (Int32.ofNat (own_s xs 1 f t))) + (Int32.ofNat (own_s xs 2 f t))) + (Int32.ofNat (own_s xs 3 f t))) + (Int32.ofNat (own_s xs 4 f t))))])) _
  refine XS.iadd X10.here hx rfl (hb hby at_208) rfl ?_
  show Steps p.tables e below (T10.setTop (mkF m 209 #[s0, s1, s2, s3, s4, .val (.ref o5), .val (.int (Int32.ofNat f)), .val (.int (Int32.ofNat t)), s8, s9, .unset, .unset] [(.int ((((((Int32.ofNat (own_s xs 0 f t)) + (Int32.ofNat (own_s xs 1 f t))) + (Int32.ofNat (own_s xs 2 f t))) + (Int32.ofNat (own_s xs 3 f t))) + (Int32.ofNat (own_s xs 4 f t))) + (Int32.ofNat (own_s xs 5 f t))))])) _
  refine XS.aload X10.here hx rfl (hb hby at_209) rfl rfl ?_
  show Steps p.tables e below (T10.setTop (mkF m 211 #[s0, s1, s2, s3, s4, .val (.ref o5), .val (.int (Int32.ofNat f)), .val (.int (Int32.ofNat t)), s8, s9, .unset, .unset] [(.ref o5), (.int ((((((Int32.ofNat (own_s xs 0 f t)) + (Int32.ofNat (own_s xs 1 f t))) + (Int32.ofNat (own_s xs 2 f t))) + (Int32.ofNat (own_s xs 3 f t))) + (Int32.ofNat (own_s xs 4 f t))) + (Int32.ofNat (own_s xs 5 f t))))])) _
  refine XS.bipush X10.here hx rfl (hb hby at_211) ?_
  show Steps p.tables e below (T10.setTop (mkF m 213 #[s0, s1, s2, s3, s4, .val (.ref o5), .val (.int (Int32.ofNat f)), .val (.int (Int32.ofNat t)), s8, s9, .unset, .unset] [(.int (6 : Int32)), (.ref o5), (.int ((((((Int32.ofNat (own_s xs 0 f t)) + (Int32.ofNat (own_s xs 1 f t))) + (Int32.ofNat (own_s xs 2 f t))) + (Int32.ofNat (own_s xs 3 f t))) + (Int32.ofNat (own_s xs 4 f t))) + (Int32.ofNat (own_s xs 5 f t))))])) _
  refine XS.iload X10.here hx rfl (hb hby at_213) rfl ?_
  show Steps p.tables e below (T10.setTop (mkF m 215 #[s0, s1, s2, s3, s4, .val (.ref o5), .val (.int (Int32.ofNat f)), .val (.int (Int32.ofNat t)), s8, s9, .unset, .unset] [(.int (Int32.ofNat f)), (.int (6 : Int32)), (.ref o5), (.int ((((((Int32.ofNat (own_s xs 0 f t)) + (Int32.ofNat (own_s xs 1 f t))) + (Int32.ofNat (own_s xs 2 f t))) + (Int32.ofNat (own_s xs 3 f t))) + (Int32.ofNat (own_s xs 4 f t))) + (Int32.ofNat (own_s xs 5 f t))))])) _
  refine XS.iload X10.here hx rfl (hb hby at_215) rfl ?_
  show Steps p.tables e below (T10.setTop (mkF m 217 #[s0, s1, s2, s3, s4, .val (.ref o5), .val (.int (Int32.ofNat f)), .val (.int (Int32.ofNat t)), s8, s9, .unset, .unset] [(.int (Int32.ofNat t)), (.int (Int32.ofNat f)), (.int (6 : Int32)), (.ref o5), (.int ((((((Int32.ofNat (own_s xs 0 f t)) + (Int32.ofNat (own_s xs 1 f t))) + (Int32.ofNat (own_s xs 2 f t))) + (Int32.ofNat (own_s xs 3 f t))) + (Int32.ofNat (own_s xs 4 f t))) + (Int32.ofNat (own_s xs 5 f t))))])) _
  refine st11 _ ?_
  show Steps p.tables e below (T11.setTop (mkF m 220 #[s0, s1, s2, s3, s4, .val (.ref o5), .val (.int (Int32.ofNat f)), .val (.int (Int32.ofNat t)), s8, s9, .unset, .unset] [(.int (Int32.ofNat (own_s xs 6 f t))), (.int ((((((Int32.ofNat (own_s xs 0 f t)) + (Int32.ofNat (own_s xs 1 f t))) + (Int32.ofNat (own_s xs 2 f t))) + (Int32.ofNat (own_s xs 3 f t))) + (Int32.ofNat (own_s xs 4 f t))) + (Int32.ofNat (own_s xs 5 f t))))])) _
  refine XS.iadd X11.here hx rfl (hb hby at_220) rfl ?_
  show Steps p.tables e below (T11.setTop (mkF m 221 #[s0, s1, s2, s3, s4, .val (.ref o5), .val (.int (Int32.ofNat f)), .val (.int (Int32.ofNat t)), s8, s9, .unset, .unset] [(.int (((((((Int32.ofNat (own_s xs 0 f t)) + (Int32.ofNat (own_s xs 1 f t))) + (Int32.ofNat (own_s xs 2 f t))) + (Int32.ofNat (own_s xs 3 f t))) + (Int32.ofNat (own_s xs 4 f t))) + (Int32.ofNat (own_s xs 5 f t))) + (Int32.ofNat (own_s xs 6 f t))))])) _
  refine XS.aload X11.here hx rfl (hb hby at_221) rfl rfl ?_
  show Steps p.tables e below (T11.setTop (mkF m 223 #[s0, s1, s2, s3, s4, .val (.ref o5), .val (.int (Int32.ofNat f)), .val (.int (Int32.ofNat t)), s8, s9, .unset, .unset] [(.ref o5), (.int (((((((Int32.ofNat (own_s xs 0 f t)) + (Int32.ofNat (own_s xs 1 f t))) + (Int32.ofNat (own_s xs 2 f t))) + (Int32.ofNat (own_s xs 3 f t))) + (Int32.ofNat (own_s xs 4 f t))) + (Int32.ofNat (own_s xs 5 f t))) + (Int32.ofNat (own_s xs 6 f t))))])) _
  refine XS.bipush X11.here hx rfl (hb hby at_223) ?_
  show Steps p.tables e below (T11.setTop (mkF m 225 #[s0, s1, s2, s3, s4, .val (.ref o5), .val (.int (Int32.ofNat f)), .val (.int (Int32.ofNat t)), s8, s9, .unset, .unset] [(.int (7 : Int32)), (.ref o5), (.int (((((((Int32.ofNat (own_s xs 0 f t)) + (Int32.ofNat (own_s xs 1 f t))) + (Int32.ofNat (own_s xs 2 f t))) + (Int32.ofNat (own_s xs 3 f t))) + (Int32.ofNat (own_s xs 4 f t))) + (Int32.ofNat (own_s xs 5 f t))) + (Int32.ofNat (own_s xs 6 f t))))])) _
  refine XS.iload X11.here hx rfl (hb hby at_225) rfl ?_
  show Steps p.tables e below (T11.setTop (mkF m 227 #[s0, s1, s2, s3, s4, .val (.ref o5), .val (.int (Int32.ofNat f)), .val (.int (Int32.ofNat t)), s8, s9, .unset, .unset] [(.int (Int32.ofNat f)), (.int (7 : Int32)), (.ref o5), (.int (((((((Int32.ofNat (own_s xs 0 f t)) + (Int32.ofNat (own_s xs 1 f t))) + (Int32.ofNat (own_s xs 2 f t))) + (Int32.ofNat (own_s xs 3 f t))) + (Int32.ofNat (own_s xs 4 f t))) + (Int32.ofNat (own_s xs 5 f t))) + (Int32.ofNat (own_s xs 6 f t))))])) _
  refine XS.iload X11.here hx rfl (hb hby at_227) rfl ?_
  show Steps p.tables e below (T11.setTop (mkF m 229 #[s0, s1, s2, s3, s4, .val (.ref o5), .val (.int (Int32.ofNat f)), .val (.int (Int32.ofNat t)), s8, s9, .unset, .unset] [(.int (Int32.ofNat t)), (.int (Int32.ofNat f)), (.int (7 : Int32)), (.ref o5), (.int (((((((Int32.ofNat (own_s xs 0 f t)) + (Int32.ofNat (own_s xs 1 f t))) + (Int32.ofNat (own_s xs 2 f t))) + (Int32.ofNat (own_s xs 3 f t))) + (Int32.ofNat (own_s xs 4 f t))) + (Int32.ofNat (own_s xs 5 f t))) + (Int32.ofNat (own_s xs 6 f t))))])) _
  refine st12 _ ?_
  show Steps p.tables e below (T12.setTop (mkF m 232 #[s0, s1, s2, s3, s4, .val (.ref o5), .val (.int (Int32.ofNat f)), .val (.int (Int32.ofNat t)), s8, s9, .unset, .unset] [(.int (Int32.ofNat (own_s xs 7 f t))), (.int (((((((Int32.ofNat (own_s xs 0 f t)) + (Int32.ofNat (own_s xs 1 f t))) + (Int32.ofNat (own_s xs 2 f t))) + (Int32.ofNat (own_s xs 3 f t))) + (Int32.ofNat (own_s xs 4 f t))) + (Int32.ofNat (own_s xs 5 f t))) + (Int32.ofNat (own_s xs 6 f t))))])) _
  refine XS.iadd X12.here hx rfl (hb hby at_232) rfl ?_
  show Steps p.tables e below (T12.setTop (mkF m 233 #[s0, s1, s2, s3, s4, .val (.ref o5), .val (.int (Int32.ofNat f)), .val (.int (Int32.ofNat t)), s8, s9, .unset, .unset] [(.int ((((((((Int32.ofNat (own_s xs 0 f t)) + (Int32.ofNat (own_s xs 1 f t))) + (Int32.ofNat (own_s xs 2 f t))) + (Int32.ofNat (own_s xs 3 f t))) + (Int32.ofNat (own_s xs 4 f t))) + (Int32.ofNat (own_s xs 5 f t))) + (Int32.ofNat (own_s xs 6 f t))) + (Int32.ofNat (own_s xs 7 f t))))])) _
  refine XS.i2l X12.here hx rfl (hb hby at_233) rfl ?_
  show Steps p.tables e below (T12.setTop (mkF m 234 #[s0, s1, s2, s3, s4, .val (.ref o5), .val (.int (Int32.ofNat f)), .val (.int (Int32.ofNat t)), s8, s9, .unset, .unset] [(.long (((((((((Int32.ofNat (own_s xs 0 f t)) + (Int32.ofNat (own_s xs 1 f t))) + (Int32.ofNat (own_s xs 2 f t))) + (Int32.ofNat (own_s xs 3 f t))) + (Int32.ofNat (own_s xs 4 f t))) + (Int32.ofNat (own_s xs 5 f t))) + (Int32.ofNat (own_s xs 6 f t))) + (Int32.ofNat (own_s xs 7 f t))).toInt64))])) _
  refine XS.lstore X12.here hx rfl (hb hby at_234) rfl (l' := #[s0, s1, s2, s3, s4, .val (.ref o5), .val (.int (Int32.ofNat f)), .val (.int (Int32.ofNat t)), s8, s9, .val (.long (((((((((Int32.ofNat (own_s xs 0 f t)) + (Int32.ofNat (own_s xs 1 f t))) + (Int32.ofNat (own_s xs 2 f t))) + (Int32.ofNat (own_s xs 3 f t))) + (Int32.ofNat (own_s xs 4 f t))) + (Int32.ofNat (own_s xs 5 f t))) + (Int32.ofNat (own_s xs 6 f t))) + (Int32.ofNat (own_s xs 7 f t))).toInt64)), .second]) rfl ?_
  show Steps p.tables e below (T12.setTop (mkF m 236 #[s0, s1, s2, s3, s4, .val (.ref o5), .val (.int (Int32.ofNat f)), .val (.int (Int32.ofNat t)), s8, s9, .val (.long (((((((((Int32.ofNat (own_s xs 0 f t)) + (Int32.ofNat (own_s xs 1 f t))) + (Int32.ofNat (own_s xs 2 f t))) + (Int32.ofNat (own_s xs 3 f t))) + (Int32.ofNat (own_s xs 4 f t))) + (Int32.ofNat (own_s xs 5 f t))) + (Int32.ofNat (own_s xs 6 f t))) + (Int32.ofNat (own_s xs 7 f t))).toInt64)), .second] [])) _
  refine XS.goto X12.here hx rfl (pc0 := 236) (pc' := 247) rfl (hb hby at_236) (by decide) (by decide) ?_
  exact kt

set_option maxRecDepth 65536 in
set_option maxHeartbeats 40000000 in
theorem tnF_b {p : Program} {l : Launch} {e : Env} {s : State} {m : MethodId} {args : Array Value} {below : List Frame} {meth : Method} {c : Code} {T0 : State} {locs : List Loc} {Z : State} {a0 : Array Value} {h0 : Heap} (s0 : Slot) (s1 : Slot) (s2 : Slot) (s3 : Slot) (s4 : Slot) (o5 : Addr) (i6 : Int32) (i7 : Int32) (s8 : Slot) (o9 : Addr) (j10 : Int64) (wC : Addr) (n0 : Nat)
    (X0 : Stand p l e room_1 s m args below meth c T0 locs 1 8) (hx : p.tables.exec = Jvm.exec) (hZ : Z.Warmed39 s.vm) (hw : ∀ d ∈ tables_1, d.before a0 Z = true) (hby : c.code = code) (hml : c.maxLocals = 12) (hown : s.vm.findClass "com/example/olm/olm/siard/CellTypeLengthPinLaw" = some m.cls) (e0 : T0.heap = h0) (Z0 : n0 ≤ h0.size) (N0 : Fr n0 locs) (S_CLOB : Sta Z h0 "com/example/olm/olm/siard/CellType" "CLOB" "Lcom/example/olm/olm/siard/CellType;" (.ref wC)) (hne : ¬ (o9 = wC)) (hj : (i7 - i6).toInt64 = j10) (E_o9 : Exa Z h0 o9 "com/example/olm/olm/siard/CellType") :
    ∃ (T' : State) (locs' : List Loc), Stand p l e room_1 s m args below meth c T' locs' 1 8 ∧ Fr n0 locs' ∧
      ∀ target, Steps p.tables e below (T'.setTop (mkF m 269 #[s0, s1, s2, s3, s4, .val (.ref o5), .val (.int i6), .val (.int i7), s8, .val (.ref o9), .val (.long j10), .second] [(.int (1 : Int32))])) target → Steps p.tables e below (T0.setTop (mkF m 247 #[s0, s1, s2, s3, s4, .val (.ref o5), .val (.int i6), .val (.int i7), s8, .val (.ref o9), .val (.long j10), .second] [])) target := by
  obtain ⟨cq5, kq5, q5a, q5b, q5c⟩ := isOf hZ e0 E_o9
  obtain ⟨_, _, ⟨T5, L5, k5, n5⟩, -, X5, ⟨Lc5, hQ5, l5, y5, z5⟩, st5⟩ := X0.virtualBack hx (y := (⟨"com/example/olm/olm/siard/CellType", "length", "([BII)J"⟩ : MethodName)) (z := (⟨"com/example/olm/olm/siard/CellType", "length", "([BII)J"⟩ : MethodName)) hown (mvT hZ (hw _ (List.mem_of_getElem? (i := 5) rfl))) (mvT hZ (hw _ (List.mem_of_getElem? (i := 6) rfl))) (notFace_of_selects (args := #[]) (mvT hZ (hw _ (List.mem_of_getElem? (i := 8) rfl)))) (mvT hZ (hw _ (List.mem_of_getElem? (i := 8) rfl))) (mvT hZ (hw _ (List.mem_of_getElem? (i := 7) rfl))) (by decide) (backOf (W := 0) (rm1_b l Z a0 hw [] o9 o5 i6 i7 wC h0 n0 Z0 S_CLOB hne) hZ (hw _ (List.mem_of_getElem? (i := 9) rfl)) (hw _ (List.mem_of_getElem? (i := 3) rfl)) (by decide) (by decide)) q5a q5c (g := (mkF m 255 #[s0, s1, s2, s3, s4, .val (.ref o5), .val (.int i6), .val (.int i7), s8, .val (.ref o9), .val (.long j10), .second] [(.int i7), (.int i6), (.ref o5), (.ref o9)])) rfl (by rw [hml]; rfl) (Steps.refl _) (argsL := [(.ref o5), (.int i6), (.int i7)]) (rest := []) (lenOf pd_0_0 rfl) rfl (by show 2 * 0 + _ ≤ _; exact Nat.le_of_eq rfl) (hb hby at_255) (fun _ _ => ⟨rfl, e0, (by decide : 1 + 0 ≤ _), (by decide : 8 + 0 ≤ _)⟩)
  dsimp only [Pt.U, Pt.locs, Pt.cells, Pt.slots] at X5 l5 y5 z5 st5 hQ5
  subst l5 y5 z5
  obtain ⟨rfl, N5q, e5⟩ := hQ5      -- what it returned, that it wrote nothing old, and the rest of your Q1
  have N5 := Fr.app N0 N5q
  refine ⟨T5, _, X5, N5, fun target kt => ?_⟩
  show Steps p.tables e below (T0.setTop (mkF m 247 #[s0, s1, s2, s3, s4, .val (.ref o5), .val (.int i6), .val (.int i7), s8, .val (.ref o9), .val (.long j10), .second] [])) _
  refine XS.aload X0.here hx rfl (hb hby at_247) rfl rfl ?_
  show Steps p.tables e below (T0.setTop (mkF m 249 #[s0, s1, s2, s3, s4, .val (.ref o5), .val (.int i6), .val (.int i7), s8, .val (.ref o9), .val (.long j10), .second] [(.ref o9)])) _
  refine XS.aload X0.here hx rfl (hb hby at_249) rfl rfl ?_
  show Steps p.tables e below (T0.setTop (mkF m 251 #[s0, s1, s2, s3, s4, .val (.ref o5), .val (.int i6), .val (.int i7), s8, .val (.ref o9), .val (.long j10), .second] [(.ref o5), (.ref o9)])) _
  refine XS.iload X0.here hx rfl (hb hby at_251) rfl ?_
  show Steps p.tables e below (T0.setTop (mkF m 253 #[s0, s1, s2, s3, s4, .val (.ref o5), .val (.int i6), .val (.int i7), s8, .val (.ref o9), .val (.long j10), .second] [(.int i6), (.ref o5), (.ref o9)])) _
  refine XS.iload X0.here hx rfl (hb hby at_253) rfl ?_
  show Steps p.tables e below (T0.setTop (mkF m 255 #[s0, s1, s2, s3, s4, .val (.ref o5), .val (.int i6), .val (.int i7), s8, .val (.ref o9), .val (.long j10), .second] [(.int i7), (.int i6), (.ref o5), (.ref o9)])) _
  refine st5.trans ?_
  show Steps p.tables e below (T5.setTop (mkF m 258 #[s0, s1, s2, s3, s4, .val (.ref o5), .val (.int i6), .val (.int i7), s8, .val (.ref o9), .val (.long j10), .second] [(.long ((i7 - i6).toInt64))])) _
  refine XS.lload X5.here hx rfl (hb hby at_258) rfl ?_
  show Steps p.tables e below (T5.setTop (mkF m 260 #[s0, s1, s2, s3, s4, .val (.ref o5), .val (.int i6), .val (.int i7), s8, .val (.ref o9), .val (.long j10), .second] [(.long j10), (.long ((i7 - i6).toInt64))])) _
  refine XS.lcmp X5.here hx rfl (hb hby at_260) rfl ?_
  show Steps p.tables e below (T5.setTop (mkF m 261 #[s0, s1, s2, s3, s4, .val (.ref o5), .val (.int i6), .val (.int i7), s8, .val (.ref o9), .val (.long j10), .second] [(.int (lcmpW ((i7 - i6).toInt64) j10))])) _
  refine XS.ifNo X5.here hx rfl (hb hby at_261) rfl ((if0 _ _).trans (teq ((lw_eq _ _).2 hj : (lcmpW ((i7 - i6).toInt64) j10) = (0 : Int32))).2) ?_
  show Steps p.tables e below (T5.setTop (mkF m 264 #[s0, s1, s2, s3, s4, .val (.ref o5), .val (.int i6), .val (.int i7), s8, .val (.ref o9), .val (.long j10), .second] [])) _
  refine XS.iconst X5.here hx rfl (hb hby at_264) ?_
  show Steps p.tables e below (T5.setTop (mkF m 265 #[s0, s1, s2, s3, s4, .val (.ref o5), .val (.int i6), .val (.int i7), s8, .val (.ref o9), .val (.long j10), .second] [(.int (1 : Int32))])) _
  refine XS.goto X5.here hx rfl (pc0 := 265) (pc' := 269) rfl (hb hby at_265) (by decide) (by decide) ?_
  exact kt

set_option maxRecDepth 65536 in
set_option maxHeartbeats 40000000 in
theorem tnF_c {p : Program} {l : Launch} {e : Env} {s : State} {m : MethodId} {args : Array Value} {below : List Frame} {meth : Method} {c : Code} {T0 : State} {locs : List Loc} {Z : State} {a0 : Array Value} {h0 : Heap} (s0 : Slot) (s1 : Slot) (s2 : Slot) (s3 : Slot) (s4 : Slot) (o5 : Addr) (f t : Nat) (s8 : Slot) (o9 : Addr) (j10 : Int64) (wC : Addr) (kb : ClassId) (xs : List Int32) (n0 : Nat)
    (X0 : Stand p l e room_1 s m args below meth c T0 locs 1 8) (hx : p.tables.exec = Jvm.exec) (hZ : Z.Warmed39 s.vm) (hw : ∀ d ∈ tables_1, d.before a0 Z = true) (hby : c.code = code) (hml : c.maxLocals = 12) (hown : s.vm.findClass "com/example/olm/olm/siard/CellTypeLengthPinLaw" = some m.cls) (e0 : T0.heap = h0) (Z0 : n0 ≤ h0.size) (N0 : Fr n0 locs) (S_CLOB : Sta Z h0 "com/example/olm/olm/siard/CellType" "CLOB" "Lcom/example/olm/olm/siard/CellType;" (.ref wC)) (heq : o9 = wC) (hft : f ≤ t) (ht : t ≤ 8) (hxs : ∀ j, j < 8 → -128 ≤ (xs.getD j 0).toInt ∧ (xs.getD j 0).toInt < 128) (V : Arv Z h0 o5 kb .byte (8 : Int32) (xs.map Value.int) (.int 0)) (hj : Int64.ofNat (own_cnt xs f (t - f)) = j10) (E_o9 : Exa Z h0 o9 "com/example/olm/olm/siard/CellType") :
    ∃ (T' : State) (locs' : List Loc), Stand p l e room_1 s m args below meth c T' locs' 1 8 ∧ Fr n0 locs' ∧
      ∀ target, Steps p.tables e below (T'.setTop (mkF m 269 #[s0, s1, s2, s3, s4, .val (.ref o5), .val (.int (Int32.ofNat f)), .val (.int (Int32.ofNat t)), s8, .val (.ref o9), .val (.long j10), .second] [(.int (1 : Int32))])) target → Steps p.tables e below (T0.setTop (mkF m 247 #[s0, s1, s2, s3, s4, .val (.ref o5), .val (.int (Int32.ofNat f)), .val (.int (Int32.ofNat t)), s8, .val (.ref o9), .val (.long j10), .second] [])) target := by
  obtain ⟨cq5, kq5, q5a, q5b, q5c⟩ := isOf hZ e0 E_o9
  obtain ⟨_, _, ⟨T5, L5, k5, n5⟩, -, X5, ⟨Lc5, hQ5, l5, y5, z5⟩, st5⟩ := X0.virtualBack hx (y := (⟨"com/example/olm/olm/siard/CellType", "length", "([BII)J"⟩ : MethodName)) (z := (⟨"com/example/olm/olm/siard/CellType", "length", "([BII)J"⟩ : MethodName)) hown (mvT hZ (hw _ (List.mem_of_getElem? (i := 5) rfl))) (mvT hZ (hw _ (List.mem_of_getElem? (i := 6) rfl))) (notFace_of_selects (args := #[]) (mvT hZ (hw _ (List.mem_of_getElem? (i := 8) rfl)))) (mvT hZ (hw _ (List.mem_of_getElem? (i := 8) rfl))) (mvT hZ (hw _ (List.mem_of_getElem? (i := 7) rfl))) (by decide) (backOf (W := 0) (rm1_c l Z a0 hw [] o9 o5 f t wC kb xs h0 n0 Z0 S_CLOB heq hft ht hxs V) hZ (hw _ (List.mem_of_getElem? (i := 9) rfl)) (hw _ (List.mem_of_getElem? (i := 3) rfl)) (by decide) (by decide)) q5a q5c (g := (mkF m 255 #[s0, s1, s2, s3, s4, .val (.ref o5), .val (.int (Int32.ofNat f)), .val (.int (Int32.ofNat t)), s8, .val (.ref o9), .val (.long j10), .second] [(.int (Int32.ofNat t)), (.int (Int32.ofNat f)), (.ref o5), (.ref o9)])) rfl (by rw [hml]; rfl) (Steps.refl _) (argsL := [(.ref o5), (.int (Int32.ofNat f)), (.int (Int32.ofNat t))]) (rest := []) (lenOf pd_0_0 rfl) rfl (by show 2 * 0 + _ ≤ _; exact Nat.le_of_eq rfl) (hb hby at_255) (fun _ _ => ⟨rfl, e0, (by decide : 1 + 0 ≤ _), (by decide : 8 + 0 ≤ _)⟩)
  dsimp only [Pt.U, Pt.locs, Pt.cells, Pt.slots] at X5 l5 y5 z5 st5 hQ5
  subst l5 y5 z5
  obtain ⟨rfl, N5q, e5⟩ := hQ5      -- what it returned, that it wrote nothing old, and the rest of your Q1
  have N5 := Fr.app N0 N5q
  refine ⟨T5, _, X5, N5, fun target kt => ?_⟩
  show Steps p.tables e below (T0.setTop (mkF m 247 #[s0, s1, s2, s3, s4, .val (.ref o5), .val (.int (Int32.ofNat f)), .val (.int (Int32.ofNat t)), s8, .val (.ref o9), .val (.long j10), .second] [])) _
  refine XS.aload X0.here hx rfl (hb hby at_247) rfl rfl ?_
  show Steps p.tables e below (T0.setTop (mkF m 249 #[s0, s1, s2, s3, s4, .val (.ref o5), .val (.int (Int32.ofNat f)), .val (.int (Int32.ofNat t)), s8, .val (.ref o9), .val (.long j10), .second] [(.ref o9)])) _
  refine XS.aload X0.here hx rfl (hb hby at_249) rfl rfl ?_
  show Steps p.tables e below (T0.setTop (mkF m 251 #[s0, s1, s2, s3, s4, .val (.ref o5), .val (.int (Int32.ofNat f)), .val (.int (Int32.ofNat t)), s8, .val (.ref o9), .val (.long j10), .second] [(.ref o5), (.ref o9)])) _
  refine XS.iload X0.here hx rfl (hb hby at_251) rfl ?_
  show Steps p.tables e below (T0.setTop (mkF m 253 #[s0, s1, s2, s3, s4, .val (.ref o5), .val (.int (Int32.ofNat f)), .val (.int (Int32.ofNat t)), s8, .val (.ref o9), .val (.long j10), .second] [(.int (Int32.ofNat f)), (.ref o5), (.ref o9)])) _
  refine XS.iload X0.here hx rfl (hb hby at_253) rfl ?_
  show Steps p.tables e below (T0.setTop (mkF m 255 #[s0, s1, s2, s3, s4, .val (.ref o5), .val (.int (Int32.ofNat f)), .val (.int (Int32.ofNat t)), s8, .val (.ref o9), .val (.long j10), .second] [(.int (Int32.ofNat t)), (.int (Int32.ofNat f)), (.ref o5), (.ref o9)])) _
  refine st5.trans ?_
  show Steps p.tables e below (T5.setTop (mkF m 258 #[s0, s1, s2, s3, s4, .val (.ref o5), .val (.int (Int32.ofNat f)), .val (.int (Int32.ofNat t)), s8, .val (.ref o9), .val (.long j10), .second] [(.long (Int64.ofNat (own_cnt xs f (t - f))))])) _
  refine XS.lload X5.here hx rfl (hb hby at_258) rfl ?_
  show Steps p.tables e below (T5.setTop (mkF m 260 #[s0, s1, s2, s3, s4, .val (.ref o5), .val (.int (Int32.ofNat f)), .val (.int (Int32.ofNat t)), s8, .val (.ref o9), .val (.long j10), .second] [(.long j10), (.long (Int64.ofNat (own_cnt xs f (t - f))))])) _
  refine XS.lcmp X5.here hx rfl (hb hby at_260) rfl ?_
  show Steps p.tables e below (T5.setTop (mkF m 261 #[s0, s1, s2, s3, s4, .val (.ref o5), .val (.int (Int32.ofNat f)), .val (.int (Int32.ofNat t)), s8, .val (.ref o9), .val (.long j10), .second] [(.int (lcmpW (Int64.ofNat (own_cnt xs f (t - f))) j10))])) _
  refine XS.ifNo X5.here hx rfl (hb hby at_261) rfl ((if0 _ _).trans (teq ((lw_eq _ _).2 hj : (lcmpW (Int64.ofNat (own_cnt xs f (t - f))) j10) = (0 : Int32))).2) ?_
  show Steps p.tables e below (T5.setTop (mkF m 264 #[s0, s1, s2, s3, s4, .val (.ref o5), .val (.int (Int32.ofNat f)), .val (.int (Int32.ofNat t)), s8, .val (.ref o9), .val (.long j10), .second] [])) _
  refine XS.iconst X5.here hx rfl (hb hby at_264) ?_
  show Steps p.tables e below (T5.setTop (mkF m 265 #[s0, s1, s2, s3, s4, .val (.ref o5), .val (.int (Int32.ofNat f)), .val (.int (Int32.ofNat t)), s8, .val (.ref o9), .val (.long j10), .second] [(.int (1 : Int32))])) _
  refine XS.goto X5.here hx rfl (pc0 := 265) (pc' := 269) rfl (hb hby at_265) (by decide) (by decide) ?_
  exact kt

def Q0 (Z : State) (h0 : Heap) (n0 : Nat) (v : Option Value) (h : Heap) (L : List Loc) : Prop := v = some (.int (1 : Int32)) ∧ Fr n0 L
set_option maxRecDepth 65536 in
set_option maxHeartbeats 40000000 in
theorem rm0 (l : Launch) (Z : State) (a0 : Array Value) (hw : ∀ d ∈ tables_1, d.before a0 Z = true) (ws : List Jvm.Cond) (p1 : Int32) (q2 : Int64) (p3 : Int32) (p4 : Int32) (wB wC : Addr) (h0 : Heap) (n0 : Nat) (Z0 : n0 ≤ h0.size) (S_BLOB : Sta Z h0 "com/example/olm/olm/siard/CellType" "BLOB" "Lcom/example/olm/olm/siard/CellType;" (.ref wB)) (S_CLOB : Sta Z h0 "com/example/olm/olm/siard/CellType" "CLOB" "Lcom/example/olm/olm/siard/CellType;" (.ref wC)) (E_B : Exa Z h0 wB "com/example/olm/olm/siard/CellType") (E_C : Exa Z h0 wC "com/example/olm/olm/siard/CellType") (hne : ¬ (wB = wC)) :
    MetFree l x (head1 (Jvm.Cond.code x code maxLocals ret :: ws) room_1) (fun a U => a = #[(.int p1), (.long q2), (.int p3), (.int p4)] ∧ Z.Warmed39 U.vm ∧ U.heap = h0) (fun _ _ _ _ _ => True) (fun _ U o U' => ∃ v L, o = .returned v ∧ Q0 Z h0 n0 v U'.heap L ∧ FrameEnd U o U' L room_1.cells room_1.slots) := by
  refine MetFree.of_bodySF (plainFor_of_name pn_0) hisR ?_
  intro p e s m args below meth c s₁ Bd hml0 hP hK
  obtain ⟨rfl, hZ, hh⟩ := hP
  have hx := Bd.exec
  have hby := Bd.bytes
  have hml : c.maxLocals = 12 := hml0
  have hown : s.vm.findClass "com/example/olm/olm/siard/CellTypeLengthPinLaw" = some m.cls := findClass_of_methodNamed Bd.named
  have hnm := (name_of_methodNamed Bd.named Bd.method).1
  have X0 : Stand p l e room_1 s m #[(.int p1), (.long q2), (.int p3), (.int p4)] below meth c s₁ [] 0 0 := Stand.of_body Bd
  have e0 : s₁.heap = h0 := by rw [← hh, Bd.state]; rfl
  have N0 := Fr.nil n0
  have pre0 : ∀ t, Steps p.tables e below (s₁.setTop (mkF m 0 #[.val (.int p1), .val (.long q2), .second, .val (.int p3), .val (.int p4), .unset, .unset, .unset, .unset, .unset, .unset, .unset] [])) t → Steps p.tables e below (s₁.setTop (entryFrame m #[(.int p1), (.long q2), (.int p3), (.int p4)] maxLocals)) t := fun t k => castTop (ef_0 m p1 q2 p3 p4) k
  obtain ⟨TA, hA, LA, b, kb, xs, XA, eA, NA, KA, VA, hxs, stA⟩ := tn0_0_85 (.val (.int p1)) q2 (.val (.int p3)) (.val (.int p4)) .unset .unset .unset .unset .unset .unset .unset n0 X0 hx hZ hw hby hml hown e0 Z0 N0 One.u
  have ZA : n0 ≤ hA.size := Nat.le_trans Z0 KA.1
  obtain ⟨f, hf, ef⟩ := own_from p3
  obtain ⟨TB, XB, eB, stB⟩ := tn0_85_110 (.val (.int p1)) (.val (.long q2)) .second p3 p4 (.val (.ref b)) .unset .unset .unset .unset .unset .unset XA hx hZ hw hby hml hown eA One.u One.u (by rw [ef]; intro q; have h9 := own_nine f hf; rw [q] at h9; have hz : (0 : Int32).toInt = 0 := rfl; omega)
  obtain ⟨t, hft, ht, et⟩ := own_to p4 f hf
  rw [ef, et] at stB
  by_cases hsel : (p1 &&& (1 : Int32)) = (0 : Int32)
  · obtain ⟨TD, XD, eD, stD⟩ := tn0_110_247 p1 (.val (.long q2)) .second (.val (.int p3)) (.val (.int p4)) (.val (.ref b)) (Int32.ofNat f) (Int32.ofNat t) .unset .unset wB XB hx hZ hw hby hml hown eB One.u (own_sta_keep S_BLOB KA) One.u hsel
    obtain ⟨TF, LF, XF, NF, stF⟩ := tnF_b (.val (.int p1)) (.val (.long q2)) .second (.val (.int p3)) (.val (.int p4)) b (Int32.ofNat f) (Int32.ofNat t) (.val (.int (0 : Int32))) wB ((Int32.ofNat t - Int32.ofNat f).toInt64) wC n0 XD hx hZ hw hby hml hown eD ZA NA (own_sta_keep S_CLOB KA) hne rfl (E_B.keep KA)
    obtain ⟨fs, hr, hrun, hended, hW, hsame⟩ := XF.leave (v := some (.int (1 : Int32))) (fun h => by rw [Bd.returns] at h; cases h)
    refine ⟨_, _, pre0 _ ?_, hrun, hended, _, _, rfl, ?_, ⟨_, rfl⟩, hW, hsame.mono (by decide) (by decide)⟩
    · refine stA _ (stB _ (stD _ (stF _ ?_)))
      exact retN XF hx (t := .boolean) Bd.returns (by simp) (hb hby at_269) hr
    · show Q0 Z h0 n0 _ TF.heap _
      exact ⟨rfl, NF⟩
  · obtain ⟨TC, XC, eC, stC⟩ := tn0_110_144 p1 (.val (.long q2)) .second (.val (.int p3)) (.val (.int p4)) (.val (.ref b)) (.val (.int (Int32.ofNat f))) (.val (.int (Int32.ofNat t))) .unset .unset .unset .unset wC XB hx hZ hw hby hml hown eB One.u (own_sta_keep S_CLOB KA) One.u hsel (by decide) (by decide)
    obtain ⟨TE, LE, XE, eE, NE, stE⟩ := tn0_144_247 (.val (.int p1)) (.val (.long q2)) .second (.val (.int p3)) (.val (.int p4)) b f t kb xs n0 (.val (.int (1 : Int32))) (.val (.ref wC)) XC hx hZ hw hby hml hown eC ZA NA hf ht VA
    obtain ⟨TF, LF, XF, NF, stF⟩ := tnF_c (.val (.int p1)) (.val (.long q2)) .second (.val (.int p3)) (.val (.int p4)) b f t (.val (.int (1 : Int32))) wC ((((((((Int32.ofNat (own_s xs 0 f t) + Int32.ofNat (own_s xs 1 f t)) + Int32.ofNat (own_s xs 2 f t)) + Int32.ofNat (own_s xs 3 f t)) + Int32.ofNat (own_s xs 4 f t)) + Int32.ofNat (own_s xs 5 f t)) + Int32.ofNat (own_s xs 6 f t)) + Int32.ofNat (own_s xs 7 f t)).toInt64) wC kb xs n0 XE hx hZ hw hby hml hown eE ZA NE (own_sta_keep S_CLOB KA) rfl hft ht hxs VA (own_total xs f t hft ht).symm (E_C.keep KA)
    obtain ⟨fs, hr, hrun, hended, hW, hsame⟩ := XF.leave (v := some (.int (1 : Int32))) (fun h => by rw [Bd.returns] at h; cases h)
    refine ⟨_, _, pre0 _ ?_, hrun, hended, _, _, rfl, ?_, ⟨_, rfl⟩, hW, hsame.mono (by decide) (by decide)⟩
    · refine stA _ (stB _ (stC _ (stE _ (stF _ ?_))))
      exact retN XF hx (t := .boolean) Bd.returns (by simp) (hb hby at_269) hr
    · show Q0 Z h0 n0 _ TF.heap _
      exact ⟨rfl, NF⟩
set_option maxRecDepth 65536 in
set_option maxHeartbeats 40000000 in
theorem comes_1 {Post : Tables → Env → Array Value → State → Outcome → State → Prop} (hpost : ∀ tb e args s v u, (limb_1_1.after args s (.returned v) u = true ∧ limb_1_2.after args s (.returned v) u = true ∧ True) → FrameEnd s (.returned v) u (Jvm.fieldLocs frame_1_writes args s ++ Jvm.arrayLocs frame_1_arrays args s ++ Jvm.staticLocs frame_1_statics s) 16 128 → Post tb e args s (.returned v) u) :
    ArmFor flags0 classFile x code maxLocals ret World_1 tables_1 room_1 Calls_1 rest_1 Pre_1 Post := by
  intro l hfl _ _ p e ha hc hk s m args below hf hA hF happ hP
  obtain ⟨hcalls, hrest, hpre⟩ := hP
  obtain ⟨-, -, -, hnamed, -, -, -, hat⟩ := (Spec.applies_iff hf).mp happ
  obtain ⟨hg, hn⟩ := and_e (Cond.before_iff.mp (show (Jvm.Cond.and given_1 narrow_1).before args s = true from hpre))
  obtain ⟨g17, g18⟩ := and_e hg
  obtain ⟨g19, g20⟩ := and_e g18
  obtain ⟨g21, g22⟩ := and_e g20
  obtain ⟨g23, g24⟩ := and_e g22
  obtain ⟨w0, w1, w2, w3, rfl⟩ : ∃ w0 w1 w2 w3 : Value, args = #[w0, w1, w2, w3] := by
    have hs : args.size = 4 := by simpa [Cond.value, given_1] using g17
    obtain ⟨L⟩ := args
    match L, hs with
    | [w0, w1, w2, w3], _ => exact ⟨w0, w1, w2, w3, rfl⟩
  have hw := fun d (hd : d ∈ tables_1) => atoms_spec (ws := Jvm.Cond.code x code maxLocals ret :: tables_1) hat d (List.mem_cons_of_mem _ hd)
  have hfit : Fit s := fun {y c} hc i hi => by
    obtain ⟨ha, rfl⟩ := Array.getElem?_eq_some_iff.mp hc
    have q := List.all_eq_true.mp ((Array.all_eq_true_iff_forall_mem.mp hF) _ (Array.getElem_mem ha)) i (List.mem_range.mpr hi)
    simpa [Array.getElem?_eq_getElem hi] using q
  obtain ⟨i0, ei0⟩ := is_v g19
  obtain rfl : w0 = (.int i0) := Option.some.inj ei0
  obtain ⟨i1, ei1⟩ := isL_v g21
  obtain rfl : w1 = (.long i1) := Option.some.inj ei1
  obtain ⟨i2, ei2⟩ := is_v g23
  obtain rfl : w2 = (.int i2) := Option.some.inj ei2
  obtain ⟨i3, ei3⟩ := is_v g24
  obtain rfl : w3 = (.int i3) := Option.some.inj ei3
  obtain ⟨nB, n1⟩ := and_e hn
  obtain ⟨nC, n2⟩ := and_e n1
  obtain ⟨oB, oC⟩ := and_e n2
  obtain ⟨wB, evB⟩ := exa_v nB
  obtain ⟨wC, evC⟩ := exa_v nC
  have f1 := Cond.eq_int (Cond.before_iff.mpr oB) rfl
  have f2 := Cond.eq_int (Cond.before_iff.mpr oC) rfl
  rw [fld_at evB] at f1
  rw [fld_at evC] at f2
  have hne : ¬ (wB = wC) := Fld.ne (Fld.start f1) (Fld.start f2) (by decide)
  obtain ⟨n, o, h1, h2, h3, _, L, rfl, ⟨rfl, N⟩, hq⟩ := rm0 l s _ hw tables_1 i0 i1 i2 i3 wB wC s.heap s.heap.size (Nat.le_refl _) (Sta.start evB (Or.inr ⟨(hw _ (List.mem_of_getElem? (i := 3) rfl)), (hw _ (List.mem_of_getElem? (i := 4) rfl))⟩)) (Sta.start evC (Or.inr ⟨(hw _ (List.mem_of_getElem? (i := 3) rfl)), (hw _ (List.mem_of_getElem? (i := 11) rfl))⟩)) (Exa.start evB nB) (Exa.start evC nC) hne p e ha hc hk s m _ below hf ((Spec.applies_iff_loose hf).mp happ).1 ⟨rfl, State.Warmed39.refl s, rfl⟩ trivial
  refine ⟨n, _, h1, h2, h3, hpost _ _ _ _ _ _ ⟨Cond.after_iff.mpr rfl, Cond.after_iff.mpr (eq_i res_at (Term.int_eval (1)) rfl), trivial⟩ ⟨hq.1, hq.2.1, (hq.2.2.sift fun y hy => Or.inr (N y hy)).mono (by decide) (by decide)⟩⟩
theorem main_1_1 : Claimed_1_1 := comes_1 fun _ _ _ _ _ _ h hF => ⟨h.1, hF⟩
theorem main_1_2 : Claimed_1_2 := comes_1 fun _ _ _ _ _ _ h hF => ⟨h.2.1, hF⟩
end Jvm.Pilot.@@N@@
namespace Jvm.Pilot.@@N@@
open Jvm Jvm.ClassFile Sem Op Lib Jvm.Free Jvm.Stand Jvm.Pilot.@@N@@.Jvm.D
/-! MADE BY PROGRAM (witnessworld.py) out of the Statement's table words and the real class files: 12 classes; the members and pool entries that the words name. The judged class is class 1, her method 1. -/
namespace start1
open Jvm.ClassFile
def u (s : String) : CpInfo := .utf8 (stringToUtf16 s)
/-- a pool by its gaps: so many unusable entries, then the entry; so many at the end -/
def gap : Nat → List CpInfo → List CpInfo
  | 0, r => r
  | n + 1, r => .unusable :: gap n r
def poolList (es : List (Nat × CpInfo)) (last : Nat) : List CpInfo := es.foldr (fun e r => gap e.1 (e.2 :: r)) (gap last [])
def pool (es : List (Nat × CpInfo)) (last : Nat) : Array CpInfo := ⟨poolList es last⟩
def fileOf (pool : Array CpInfo) (this : Nat) (attrs : Array Attribute := #[]) (ms : Array MethodInfo := #[]) (fl : Nat := 33) (sup : Nat := 0) (ifs : Array Nat := #[]) (fds : Array FieldInfo := #[]) : ClassFile where
  minorVersion := 0
  majorVersion := 65
  constantPool := pool
  accessFlags := fl
  thisClass := this
  superClass := sup
  interfaces := ifs
  fields := fds
  methods := ms
  attributes := attrs
def plain (name : String) (sup : Option ClassId) : Class where
  name := name
  kind := .ordinary
  loader := none
  accessFlags := 33
  super := sup
  interfaces := #[]
  cf := none
  fields := #[]
  methods := #[]
  instanceTypes := #[]
  staticTypes := #[]
  resolved := #[]
  callSites := []
  init := .initialized
  statics := none
  mirror := none

def pool0 : Array CpInfo := pool [(5, u "<init>"), (0, u "()V"), (1, .class_ 10), (1, u "java/lang/Object")] 113

def k0m0 : Method := { name := "<init>", desc := "()V", sig := { parameters := [], returnType := none }, accessFlags := 1, code := none }
/-- java/lang/Object -/
def k0 : Class := { plain "java/lang/Object" none with
  accessFlags := 33
  interfaces := #[]
  cf := some (fileOf pool0 8 #[] #[{ accessFlags := 1, nameIndex := 5, descriptorIndex := 6, attributes := #[] }] 33 0 #[] #[])
  fields := #[]
  methods := #[k0m0]
  instanceTypes := #[]
  staticTypes := #[]
  resolved := Array.replicate 124 none
  statics := none }

def pool1 : Array CpInfo := pool [(2, .class_ 4), (1, u "java/lang/Object"), (0, u "<init>"), (0, u "()V"), (0, .integer 2147483647), (0, .fieldref 9 10), (0, .class_ 11), (0, .nameAndType 12 13), (0, u "com/example/olm/olm/siard/CellType"), (0, u "CLOB"), (0, u "Lcom/example/olm/olm/siard/CellType;"), (0, .fieldref 9 15), (0, .nameAndType 16 13), (0, u "BLOB"), (0, .methodref 18 19), (0, .class_ 20), (0, .nameAndType 21 22), (0, u "com/example/olm/olm/siard/CellTypeLengthPinLaw"), (0, u "starts"), (0, u "([BIII)I"), (0, .methodref 9 24), (0, .nameAndType 25 26), (0, u "length"), (0, u "([BII)J"), (2, u "law"), (0, u "(IJII)Z")] 5

def k1m0 : Method := { name := "<init>", desc := "()V", sig := { parameters := [], returnType := none }, accessFlags := 1, code := none }
def k1c1 : Code := { maxStack := 5, maxLocals := 12, code := code, exceptionTable := #[], attributes := #[] }
def k1m1 : Method := { name := "law", desc := "(IJII)Z", sig := { parameters := [.int, .long, .int, .int], returnType := some .boolean }, accessFlags := 9, code := some k1c1 }
def k1c2 : Code := { maxStack := 2, maxLocals := 4, code := method_3_code, exceptionTable := #[], attributes := #[] }
def k1m2 : Method := { name := "starts", desc := "([BIII)I", sig := { parameters := [(.array .byte), .int, .int, .int], returnType := some .int }, accessFlags := 10, code := some k1c2 }
/-- com/example/olm/olm/siard/CellTypeLengthPinLaw -/
def k1 : Class := { plain "com/example/olm/olm/siard/CellTypeLengthPinLaw" (some 0) with
  accessFlags := 49
  interfaces := #[]
  cf := some (fileOf pool1 18 #[] #[{ accessFlags := 1, nameIndex := 5, descriptorIndex := 6, attributes := #[] }, { accessFlags := 9, nameIndex := 29, descriptorIndex := 30, attributes := #[] }, { accessFlags := 10, nameIndex := 21, descriptorIndex := 22, attributes := #[] }] 49 2 #[] #[])
  fields := #[]
  methods := #[k1m0, k1m1, k1m2]
  instanceTypes := #[]
  staticTypes := #[]
  resolved := Array.replicate 36 none
  statics := none }

def pool2 : Array CpInfo := pool [(1, .class_ 2), (0, u "java/lang/constant/Constable"), (0, .class_ 4), (0, u "java/lang/Object")] 6

/-- java/lang/constant/Constable -/
def k2 : Class := { plain "java/lang/constant/Constable" (some 0) with
  accessFlags := 1537
  interfaces := #[]
  cf := some (fileOf pool2 1 #[] #[] 1537 3 #[] #[])
  fields := #[]
  methods := #[]
  instanceTypes := #[]
  staticTypes := #[]
  resolved := Array.replicate 11 none
  statics := none }

def pool3 : Array CpInfo := pool [(1, .class_ 2), (0, u "java/lang/Comparable"), (0, .class_ 4), (0, u "java/lang/Object")] 7

/-- java/lang/Comparable -/
def k3 : Class := { plain "java/lang/Comparable" (some 0) with
  accessFlags := 1537
  interfaces := #[]
  cf := some (fileOf pool3 1 #[] #[] 1537 3 #[] #[])
  fields := #[]
  methods := #[]
  instanceTypes := #[]
  staticTypes := #[]
  resolved := Array.replicate 12 none
  statics := none }

def pool4 : Array CpInfo := pool [(1, .class_ 2), (0, u "java/io/Serializable"), (0, .class_ 4), (0, u "java/lang/Object")] 2

/-- java/io/Serializable -/
def k4 : Class := { plain "java/io/Serializable" (some 0) with
  accessFlags := 1537
  interfaces := #[]
  cf := some (fileOf pool4 1 #[] #[] 1537 3 #[] #[])
  fields := #[]
  methods := #[]
  instanceTypes := #[]
  staticTypes := #[]
  resolved := Array.replicate 7 none
  statics := none }

def pool5 : Array CpInfo := pool [(2, .class_ 4), (1, u "java/lang/Enum"), (0, u "name"), (0, u "Ljava/lang/String;"), (2, u "ordinal"), (0, u "I"), (1, .class_ 14), (1, u "java/lang/Object"), (4, u "hash"), (86, .class_ 108), (1, u "java/lang/Enum$EnumDesc"), (2, .class_ 112), (0, u "java/lang/constant/Constable"), (0, .class_ 114), (0, u "java/lang/Comparable"), (0, .class_ 116), (0, u "java/io/Serializable")] 87

/-- java/lang/Enum -/
def k5 : Class := { plain "java/lang/Enum" (some 0) with
  accessFlags := 1057
  interfaces := #[2, 3, 4]
  cf := some (fileOf pool5 2 #[.nestMembers #[106]] #[] 1057 12 #[111, 113, 115] #[{ accessFlags := 18, nameIndex := 5, descriptorIndex := 6, attributes := #[] }, { accessFlags := 18, nameIndex := 9, descriptorIndex := 10, attributes := #[] }, { accessFlags := 2, nameIndex := 19, descriptorIndex := 10, attributes := #[] }])
  fields := #[{ name := "name", type := (.object "java/lang/String"), accessFlags := 18, slot := 0, constantValue := 0 }, { name := "ordinal", type := .int, accessFlags := 18, slot := 1, constantValue := 0 }, { name := "hash", type := .int, accessFlags := 2, slot := 2, constantValue := 0 }]
  methods := #[]
  instanceTypes := #[(.object "java/lang/String"), .int, .int]
  staticTypes := #[]
  resolved := Array.replicate 204 none
  statics := none }

def pool6 : Array CpInfo := pool [(1, .class_ 2), (0, u "com/example/olm/olm/siard/CellType"), (2, u "INTEGER"), (0, u "Lcom/example/olm/olm/siard/CellType;"), (2, u "DECIMAL"), (2, u "FLOAT"), (2, u "DOUBLE"), (2, u "STRING"), (0, .fieldref 1 20), (0, .nameAndType 21 6), (0, u "CLOB"), (2, u "BLOB"), (2, u "BINARY"), (2, u "BOOLEAN"), (2, u "DATE"), (2, u "TIME"), (2, u "OFFSET_TIME"), (2, u "LOCAL_DATE_TIME"), (2, u "DATE_TIME"), (2, u "DURATION"), (2, u "$VALUES"), (0, u "[Lcom/example/olm/olm/siard/CellType;"), (6, .class_ 61), (1, u "java/lang/Enum"), (8, u "xsdType"), (0, u "Ljava/lang/String;"), (2, u "builtIn"), (12, u "OF_TYPE"), (0, u "Ljava/util/Map;"), (105, u "HEX"), (0, u "Ljava/util/HexFormat;"), (50, u "length"), (138, u "FIRST_INSTANT"), (0, u "Ljava/time/Instant;"), (6, u "END_INSTANT"), (121, u "FIRST_YEAR"), (0, u "I"), (2, u "LAST_YEAR"), (1, u "FIRST_DATE_TIME"), (0, u "END_DATE_TIME"), (2, u "FIRST_LOCAL_DATE_TIME"), (2, u "END_LOCAL_DATE_TIME"), (2, u "MAX_OFFSET_SECONDS"), (0, u "SECONDS_PER_MINUTE"), (1, u "MONTHS_PER_YEAR"), (1, u "SHOWN_LENGTH"), (21, u "([BII)J")] 44

def k6c0 : Code := { maxStack := 4, maxLocals := 7, code := prog_132_method_14_code, exceptionTable := #[], attributes := #[] }
def k6m0 : Method := { name := "length", desc := "([BII)J", sig := { parameters := [(.array .byte), .int, .int], returnType := some .long }, accessFlags := 0, code := some k6c0 }
/-- com/example/olm/olm/siard/CellType -/
def k6 : Class := { plain "com/example/olm/olm/siard/CellType" (some 5) with
  accessFlags := 16432
  interfaces := #[]
  cf := some (fileOf pool6 1 #[] #[{ accessFlags := 0, nameIndex := 246, descriptorIndex := 558, attributes := #[] }] 16432 59 #[] #[{ accessFlags := 16409, nameIndex := 5, descriptorIndex := 6, attributes := #[] }, { accessFlags := 16409, nameIndex := 9, descriptorIndex := 6, attributes := #[] }, { accessFlags := 16409, nameIndex := 12, descriptorIndex := 6, attributes := #[] }, { accessFlags := 16409, nameIndex := 15, descriptorIndex := 6, attributes := #[] }, { accessFlags := 16409, nameIndex := 18, descriptorIndex := 6, attributes := #[] }, { accessFlags := 16409, nameIndex := 21, descriptorIndex := 6, attributes := #[] }, { accessFlags := 16409, nameIndex := 24, descriptorIndex := 6, attributes := #[] }, { accessFlags := 16409, nameIndex := 27, descriptorIndex := 6, attributes := #[] }, { accessFlags := 16409, nameIndex := 30, descriptorIndex := 6, attributes := #[] }, { accessFlags := 16409, nameIndex := 33, descriptorIndex := 6, attributes := #[] }, { accessFlags := 16409, nameIndex := 36, descriptorIndex := 6, attributes := #[] }, { accessFlags := 16409, nameIndex := 39, descriptorIndex := 6, attributes := #[] }, { accessFlags := 16409, nameIndex := 42, descriptorIndex := 6, attributes := #[] }, { accessFlags := 16409, nameIndex := 45, descriptorIndex := 6, attributes := #[] }, { accessFlags := 16409, nameIndex := 48, descriptorIndex := 6, attributes := #[] }, { accessFlags := 26, nameIndex := 515, descriptorIndex := 516, attributes := #[] }, { accessFlags := 26, nameIndex := 519, descriptorIndex := 516, attributes := #[] }, { accessFlags := 26, nameIndex := 194, descriptorIndex := 195, attributes := #[] }, { accessFlags := 24, nameIndex := 521, descriptorIndex := 71, attributes := #[] }, { accessFlags := 24, nameIndex := 522, descriptorIndex := 71, attributes := #[] }, { accessFlags := 26, nameIndex := 385, descriptorIndex := 386, attributes := #[] }, { accessFlags := 26, nameIndex := 393, descriptorIndex := 386, attributes := #[] }, { accessFlags := 24, nameIndex := 525, descriptorIndex := 71, attributes := #[] }, { accessFlags := 24, nameIndex := 528, descriptorIndex := 71, attributes := #[] }, { accessFlags := 26, nameIndex := 531, descriptorIndex := 516, attributes := #[] }, { accessFlags := 26, nameIndex := 532, descriptorIndex := 516, attributes := #[] }, { accessFlags := 26, nameIndex := 534, descriptorIndex := 516, attributes := #[] }, { accessFlags := 24, nameIndex := 536, descriptorIndex := 516, attributes := #[] }, { accessFlags := 26, nameIndex := 87, descriptorIndex := 88, attributes := #[] }, { accessFlags := 18, nameIndex := 70, descriptorIndex := 71, attributes := #[] }, { accessFlags := 18, nameIndex := 74, descriptorIndex := 71, attributes := #[] }, { accessFlags := 4122, nameIndex := 51, descriptorIndex := 52, attributes := #[] }])
  fields := #[{ name := "INTEGER", type := (.object "com/example/olm/olm/siard/CellType"), accessFlags := 16409, slot := 0, constantValue := 0 }, { name := "DECIMAL", type := (.object "com/example/olm/olm/siard/CellType"), accessFlags := 16409, slot := 1, constantValue := 0 }, { name := "FLOAT", type := (.object "com/example/olm/olm/siard/CellType"), accessFlags := 16409, slot := 2, constantValue := 0 }, { name := "DOUBLE", type := (.object "com/example/olm/olm/siard/CellType"), accessFlags := 16409, slot := 3, constantValue := 0 }, { name := "STRING", type := (.object "com/example/olm/olm/siard/CellType"), accessFlags := 16409, slot := 4, constantValue := 0 }, { name := "CLOB", type := (.object "com/example/olm/olm/siard/CellType"), accessFlags := 16409, slot := 5, constantValue := 0 }, { name := "BLOB", type := (.object "com/example/olm/olm/siard/CellType"), accessFlags := 16409, slot := 6, constantValue := 0 }, { name := "BINARY", type := (.object "com/example/olm/olm/siard/CellType"), accessFlags := 16409, slot := 7, constantValue := 0 }, { name := "BOOLEAN", type := (.object "com/example/olm/olm/siard/CellType"), accessFlags := 16409, slot := 8, constantValue := 0 }, { name := "DATE", type := (.object "com/example/olm/olm/siard/CellType"), accessFlags := 16409, slot := 9, constantValue := 0 }, { name := "TIME", type := (.object "com/example/olm/olm/siard/CellType"), accessFlags := 16409, slot := 10, constantValue := 0 }, { name := "OFFSET_TIME", type := (.object "com/example/olm/olm/siard/CellType"), accessFlags := 16409, slot := 11, constantValue := 0 }, { name := "LOCAL_DATE_TIME", type := (.object "com/example/olm/olm/siard/CellType"), accessFlags := 16409, slot := 12, constantValue := 0 }, { name := "DATE_TIME", type := (.object "com/example/olm/olm/siard/CellType"), accessFlags := 16409, slot := 13, constantValue := 0 }, { name := "DURATION", type := (.object "com/example/olm/olm/siard/CellType"), accessFlags := 16409, slot := 14, constantValue := 0 }, { name := "FIRST_YEAR", type := .int, accessFlags := 26, slot := 15, constantValue := 0 }, { name := "LAST_YEAR", type := .int, accessFlags := 26, slot := 16, constantValue := 0 }, { name := "HEX", type := (.object "java/util/HexFormat"), accessFlags := 26, slot := 17, constantValue := 0 }, { name := "FIRST_DATE_TIME", type := (.object "java/lang/String"), accessFlags := 24, slot := 18, constantValue := 0 }, { name := "END_DATE_TIME", type := (.object "java/lang/String"), accessFlags := 24, slot := 19, constantValue := 0 }, { name := "FIRST_INSTANT", type := (.object "java/time/Instant"), accessFlags := 26, slot := 20, constantValue := 0 }, { name := "END_INSTANT", type := (.object "java/time/Instant"), accessFlags := 26, slot := 21, constantValue := 0 }, { name := "FIRST_LOCAL_DATE_TIME", type := (.object "java/lang/String"), accessFlags := 24, slot := 22, constantValue := 0 }, { name := "END_LOCAL_DATE_TIME", type := (.object "java/lang/String"), accessFlags := 24, slot := 23, constantValue := 0 }, { name := "MAX_OFFSET_SECONDS", type := .int, accessFlags := 26, slot := 24, constantValue := 0 }, { name := "SECONDS_PER_MINUTE", type := .int, accessFlags := 26, slot := 25, constantValue := 0 }, { name := "MONTHS_PER_YEAR", type := .int, accessFlags := 26, slot := 26, constantValue := 0 }, { name := "SHOWN_LENGTH", type := .int, accessFlags := 24, slot := 27, constantValue := 0 }, { name := "OF_TYPE", type := (.object "java/util/Map"), accessFlags := 26, slot := 28, constantValue := 0 }, { name := "xsdType", type := (.object "java/lang/String"), accessFlags := 18, slot := 3, constantValue := 0 }, { name := "builtIn", type := (.object "java/lang/String"), accessFlags := 18, slot := 4, constantValue := 0 }, { name := "$VALUES", type := (.array (.object "com/example/olm/olm/siard/CellType")), accessFlags := 4122, slot := 29, constantValue := 0 }]
  methods := #[k6m0]
  instanceTypes := #[(.object "java/lang/String"), .int, .int, (.object "java/lang/String"), (.object "java/lang/String")]
  staticTypes := #[(.object "com/example/olm/olm/siard/CellType"), (.object "com/example/olm/olm/siard/CellType"), (.object "com/example/olm/olm/siard/CellType"), (.object "com/example/olm/olm/siard/CellType"), (.object "com/example/olm/olm/siard/CellType"), (.object "com/example/olm/olm/siard/CellType"), (.object "com/example/olm/olm/siard/CellType"), (.object "com/example/olm/olm/siard/CellType"), (.object "com/example/olm/olm/siard/CellType"), (.object "com/example/olm/olm/siard/CellType"), (.object "com/example/olm/olm/siard/CellType"), (.object "com/example/olm/olm/siard/CellType"), (.object "com/example/olm/olm/siard/CellType"), (.object "com/example/olm/olm/siard/CellType"), (.object "com/example/olm/olm/siard/CellType"), .int, .int, (.object "java/util/HexFormat"), (.object "java/lang/String"), (.object "java/lang/String"), (.object "java/time/Instant"), (.object "java/time/Instant"), (.object "java/lang/String"), (.object "java/lang/String"), .int, .int, .int, .int, (.object "java/util/Map"), (.array (.object "com/example/olm/olm/siard/CellType"))]
  resolved := Array.replicate 603 none
  statics := some 0 }

def pool7 : Array CpInfo := pool [(1, u "java/lang/Cloneable"), (0, .class_ 1), (0, u "java/lang/Object"), (0, .class_ 3)] 3

/-- java/lang/Cloneable -/
def k7 : Class := { plain "java/lang/Cloneable" (some 0) with
  accessFlags := 1537
  interfaces := #[]
  cf := some (fileOf pool7 2 #[] #[] 1537 4 #[] #[])
  fields := #[]
  methods := #[]
  instanceTypes := #[]
  staticTypes := #[]
  resolved := Array.replicate 8 none
  statics := none }

/-- the primitive byte -/
def k8 : Class := { plain "byte" none with kind := .primitive 'B', accessFlags := 0x411 }
/-- [B -/
def k9 : Class := { plain "[B" (some 0) with kind := .array 8 .byte, interfaces := #[7, 4], accessFlags := 1041 }

/-- the primitive int -/
def k10 : Class := { plain "int" none with kind := .primitive 'I', accessFlags := 0x411 }
/-- [I -/
def k11 : Class := { plain "[I" (some 0) with kind := .array 10 .int, interfaces := #[7, 4], accessFlags := 1041 }

def heap : Heap := #[{ cls := 6, slots := #[.null, .null, .null, .null, .null, .ref 2, .ref 1, .null, .null, .null, .null, .null, .null, .null, .null, .int 0, .int 0, .null, .null, .null, .null, .null, .null, .null, .int 0, .int 0, .int 0, .int 0, .null, .null], vm := .statics 6 },
  { cls := 6, slots := #[.null, .int 6, .int 0, .null, .null], vm := .none },
  { cls := 6, slots := #[.null, .int 5, .int 0, .null, .null], vm := .none }]
def classes : Array Class := #[k0, k1, k2, k3, k4, k5, k6, k7, k8, k9, k10, k11]
def interned : List (Array UInt16 × Addr) := []
def slotsUsed : Nat := 40
def theMethod : MethodId := ⟨1, 1⟩
def args0 : Array Value := #[.int 3, .long 4, .int 5, .int 6]
def aboutOver (below : List Frame) : State where
  vm := { classes := classes, interned := interned.toArray }
  heap := heap
  slotsUsed := slotsUsed
  threads := #[{ frames := .invoking theMethod args0 :: below }]
def below0 : List Frame := [.native { method := ⟨0, 0⟩, args := #[] }]
def about1 : State := aboutOver below0
def p0 : Program := .bare "" "" ""
def e0 : Env := launch0.env 0 0 0
theorem w_frames : about1.frames = Frame.invoking theMethod args0 :: below0 := rfl
set_option maxRecDepth 65536 in
theorem w_args : argsFit about1.vm theMethod args0 = true := by decide +kernel
set_option maxRecDepth 65536 in
theorem w_heap : heapFits about1 = true := by decide +kernel
set_option maxRecDepth 65536 in
theorem w_runnable : about1.curStatus? = some .runnable := by decide +kernel
set_option maxRecDepth 65536 in
theorem w_alone : about1.alone = true := by decide +kernel
set_option maxRecDepth 65536 in
theorem w_named : about1.methodNamed? x = some theMethod := by decide +kernel
set_option maxRecDepth 65536 in
theorem w_hears : about1.hears theMethod below0 = true := by decide +kernel
set_option maxRecDepth 65536 in
theorem w_ripe : about1.ripe theMethod args0 below0 = true := by decide +kernel
theorem w_running : about1.status = .running := rfl
set_option maxRecDepth 65536 in
theorem w_room : about1.hasRoom e0.platform room_1 = true :=
  launch0.hasRoom_least _ room_1 (by decide +kernel) (by decide +kernel) (by decide +kernel) (by decide +kernel) (by decide +kernel) (by decide +kernel)
theorem allAtoms_all (ts : List Jvm.Cond) (a : Array Jvm.Value) (st : Jvm.State) : (allAtoms ts).before a st = ts.all (fun c => c.before a st) := by
  induction ts with
  | nil => rfl
  | cons c t ih =>
    show (Jvm.Cond.and c (allAtoms t)).before a st = _
    rw [Jvm.Cond.before_and, ih, List.all_cons]
def words1 : List Jvm.Cond := Jvm.Cond.code x code maxLocals ret :: tables_1
/-- a 'code' word, met by the world's own term for the bytes: nothing is compared byte by byte -/
theorem code_word {y : MethodName} {bytes : ByteArray} {mx : Nat} {rt : Option FieldType} {a : Array Value} {s : State} {m : MethodId} {meth : Method} {c : Code} (h1 : s.methodNamed? y = some m) (h2 : s.vm.method? m = some meth) (h3 : meth.code = some c) (h4 : c.code = bytes)
    (h5 : (c.maxLocals == mx && c.exceptionTable.isEmpty && decide (c.maxStack ≤ mostOperands) && decide (meth.sig.returnType = rt) && !meth.locks && decide (parseMethodDescriptor y.desc = some meth.sig)) = true) : (Jvm.Cond.code y bytes mx rt).before a s = true := by
  simp only [Bool.and_eq_true, beq_iff_eq, Bool.not_eq_true', decide_eq_true_eq] at h5
  obtain ⟨⟨⟨⟨⟨g1, g2⟩, g3⟩, g4⟩, g5⟩, g6⟩ := h5
  simp [Cond.before, Cond.holds, Cond.value, h1, h2, h3, h4, g1, g2, g3, g4, g5, g6]
def isCode : Jvm.Cond → Bool
  | .code _ _ _ _ => true
  | _ => false
theorem all_split {L : List Jvm.Cond} {P : Jvm.Cond → Bool} (h1 : L.all (fun c => isCode c || P c) = true) (h2 : ∀ c ∈ L.filter isCode, P c = true) : L.all P = true := by
  refine List.all_eq_true.mpr fun c hc => ?_
  have h := List.all_eq_true.mp h1 c hc
  rcases Bool.eq_false_or_eq_true (isCode c) with hi | hi
  · exact h2 c (List.mem_filter.mpr ⟨hc, hi⟩)
  · simpa [hi] using h
set_option maxRecDepth 65536 in
theorem w_c0 : (Jvm.Cond.code x code maxLocals ret).before args0 about1 = true := code_word (m := ⟨1, 1⟩) (meth := k1m1) (c := k1c1) (by decide +kernel) rfl rfl rfl (by decide +kernel)
set_option maxRecDepth 65536 in
theorem w_c1 : (Jvm.Cond.code ({ cls := "com/example/olm/olm/siard/CellType", name := "length", desc := "([BII)J" } : Jvm.MethodName) prog_132_method_14_code (7 : Nat) (Option.some Jvm.ClassFile.FieldType.long)).before args0 about1 = true := code_word (m := ⟨6, 0⟩) (meth := k6m0) (c := k6c0) (by decide +kernel) rfl rfl rfl (by decide +kernel)
set_option maxRecDepth 65536 in
theorem w_c2 : (Jvm.Cond.code ({ cls := "com/example/olm/olm/siard/CellTypeLengthPinLaw", name := "starts", desc := "([BIII)I" } : Jvm.MethodName) method_3_code (4 : Nat) (Option.some Jvm.ClassFile.FieldType.int)).before args0 about1 = true := code_word (m := ⟨1, 2⟩) (meth := k1m2) (c := k1c2) (by decide +kernel) rfl rfl rfl (by decide +kernel)
def codes1 : List Jvm.Cond := [Jvm.Cond.code x code maxLocals ret, Jvm.Cond.code ({ cls := "com/example/olm/olm/siard/CellType", name := "length", desc := "([BII)J" } : Jvm.MethodName) prog_132_method_14_code (7 : Nat) (Option.some Jvm.ClassFile.FieldType.long), Jvm.Cond.code ({ cls := "com/example/olm/olm/siard/CellTypeLengthPinLaw", name := "starts", desc := "([BIII)I" } : Jvm.MethodName) method_3_code (4 : Nat) (Option.some Jvm.ClassFile.FieldType.int)]
set_option maxRecDepth 65536 in
theorem codes_eq : words1.filter isCode = codes1 := rfl
theorem w_codes : ∀ c ∈ words1.filter isCode, c.before args0 about1 = true := by
  rw [codes_eq]
  intro c hc
  simp only [codes1, List.mem_cons, List.not_mem_nil, or_false] at hc
  rcases hc with rfl | rfl | rfl
  · exact w_c0
  · exact w_c1
  · exact w_c2
set_option maxRecDepth 65536 in
theorem w_t1 : words1.all (fun c => isCode c || c.before args0 about1) = true := by decide +kernel
theorem w_tables : (allAtoms (Jvm.Cond.code x code maxLocals ret :: tables_1)).before args0 about1 = true := by
  rw [allAtoms_all]
  show words1.all (fun c => c.before args0 about1) = true
  refine all_split ?_ w_codes
  rw [w_t1]
set_option maxRecDepth 65536 in
theorem w_case : (Jvm.Cond.and given_1 narrow_1).before args0 about1 = true := by decide +kernel
theorem w_applies : (headSpec (Jvm.Cond.code x code maxLocals ret :: tables_1) room_1).applies x e0.platform about1 = true :=
  (Spec.applies_iff w_frames).mpr ⟨w_running, w_runnable, w_alone, w_named, w_hears, w_ripe, w_room, w_tables⟩
theorem atStart : AtStart classFile x code maxLocals ret World_1 tables_1 room_1 Calls_1 rest_1 Pre_1 launch0 p0 e0 about1 theMethod args0 below0 :=
  ⟨lists_1, trivial, launch0.admits_env _ _ _, launch0.least_env, fairChoices_fair.cas, fairChoices_fair.clock, w_frames, w_args, w_heap, w_applies, trivial, trivial, w_case⟩
end start1
theorem witness_1 : WitnessClaimed_1 := ⟨start1.p0, start1.e0, start1.about1, start1.theMethod, start1.args0, start1.below0, start1.atStart⟩
end Jvm.Pilot.@@N@@
