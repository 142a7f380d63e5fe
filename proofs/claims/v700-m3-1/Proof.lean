import JvmDerived
import JvmDerived.Pilot.@@N@@Statement
import JvmDerived.Pilot.@@N@@Code
set_option linter.unusedVariables false
set_option linter.unusedSimpArgs false
namespace Jvm.RoadKit
open Sem ClassFile Op Lib Jvm.Stand Jvm.Free Jvm.LawKit
section New
variable {p : Program} {l : Launch} {e : Env} {R : Room} {s : State} {m : MethodId} {args : Array Value} {below : List Frame} {meth : Method} {c : Code} {T : State} {locs : List Loc} {cells slots : Nat}
theorem retI (X : Stand p l e R s m args below meth c T locs cells slots) (hx : p.tables.exec = Jvm.exec) {pc : Nat} {Ls : Array Slot} {z : Int32} {rest : List Value} (hret : meth.sig.returnType = some .int) (hd : decode c.code pc = .ok (.ireturn, 1)) {fs : List Frame}
    (hl : ∀ (f : JFrame) (acts : List Action), f.method = m → f.locked = none → f.entered = [] → (doReturn e (T.setTop f) acts (some (.int z))).1 = T.setFrames fs) : Steps p.tables e below (T.setTop (mkF m pc Ls (.int z :: rest))) (T.setFrames fs) := by
  have hm' : T.vm.method? m = some meth := X.method'
  have hn : narrow .int (.int z) = .int z := rfl
  show Steps p.tables e below (T.setTop { method := m, pc := pc, locals := Ls, stack := _ :: rest, locked := none }) _
  jvm_step X.here [X.here.top, hx, hd, hm', hret, hn]
  first | (intro acts; rw [hl _ acts rfl rfl rfl]) | rw [hl _ _ rfl rfl rfl]
  exact Steps.refl _
end New
end Jvm.RoadKit
namespace Jvm.Pilot.@@N@@
open Jvm Jvm.ClassFile Sem Op Lib Jvm.Free Jvm.Stand Jvm.LawKit Jvm.RoadKit Bundle Jvm.Pilot.@@N@@.Jvm.D
def own_sel (c : Bool) (t f : Int32) : Int32 := bif c then t else f
theorem own_bif {tb : Tables} [Ours tb] {e : Env} {below : List Frame} {T target : State} {m : MethodId} {c : Code} {g : JFrame} (h : At T m c below) (hx : tb.exec = Jvm.exec) (hg : g.method = m) {cd : ClassFile.Cond} {x : Int32} {rest : List Value} {v1 v0 : Int} {pc0 : Nat} (hpc : g.pc = pc0) (hd : decode c.code pc0 = .ok (.ifCond cd 7, 3)) (hd1 : decode c.code (pc0 + 3) = .ok (.iconst v1, 1)) (hd2 : decode c.code (pc0 + 4) = .ok (.goto 4, 3)) (hd3 : decode c.code (pc0 + 7) = .ok (.iconst v0, 1)) (hs : g.stack = .int x :: rest)
    (hr : Steps tb e below (T.setTop { g with pc := pc0 + 8, stack := .int (own_sel (if_icmp.holds cd x 0) (Int32.ofInt v0) (Int32.ofInt v1)) :: rest }) target) : Steps tb e below (T.setTop g) target := by
  subst hpc
  cases hh : if_icmp.holds cd x 0 with
  | true =>
    refine XS.ifYes h hx hg (pc0 := g.pc) (pc' := g.pc + 7) rfl hd hs ((if0 _ _).trans hh) (by omega) (by omega) ?_
    refine XS.iconst h hx hg hd3 ?_
    rw [hh] at hr
    exact hr
  | false =>
    refine XS.ifNo h hx hg hd hs ((if0 _ _).trans hh) ?_
    refine XS.iconst h hx hg hd1 ?_
    refine XS.goto h hx hg (pc0 := g.pc + 4) (pc' := g.pc + 8) rfl hd2 (by omega) (by omega) ?_
    rw [hh] at hr
    exact hr
theorem own_bicmp {tb : Tables} [Ours tb] {e : Env} {below : List Frame} {T target : State} {m : MethodId} {c : Code} {g : JFrame} (h : At T m c below) (hx : tb.exec = Jvm.exec) (hg : g.method = m) {cd : ClassFile.Cond} {x y : Int32} {rest : List Value} {v1 v0 : Int} {pc0 : Nat} (hpc : g.pc = pc0) (hd : decode c.code pc0 = .ok (.if_icmp cd 7, 3)) (hd1 : decode c.code (pc0 + 3) = .ok (.iconst v1, 1)) (hd2 : decode c.code (pc0 + 4) = .ok (.goto 4, 3)) (hd3 : decode c.code (pc0 + 7) = .ok (.iconst v0, 1)) (hs : g.stack = .int y :: .int x :: rest)
    (hr : Steps tb e below (T.setTop { g with pc := pc0 + 8, stack := .int (own_sel (if_icmp.holds cd x y) (Int32.ofInt v0) (Int32.ofInt v1)) :: rest }) target) : Steps tb e below (T.setTop g) target := by
  subst hpc
  cases hh : if_icmp.holds cd x y with
  | true =>
    refine XS.icmpYes h hx hg (pc0 := g.pc) (pc' := g.pc + 7) rfl hd hs hh (by omega) (by omega) ?_
    refine XS.iconst h hx hg hd3 ?_
    rw [hh] at hr
    exact hr
  | false =>
    refine XS.icmpNo h hx hg hd hs hh ?_
    refine XS.iconst h hx hg hd1 ?_
    refine XS.goto h hx hg (pc0 := g.pc + 4) (pc' := g.pc + 8) rfl hd2 (by omega) (by omega) ?_
    rw [hh] at hr
    exact hr
theorem own_nar_sel (b : Bool) : nar .boolean (own_sel b (0 : Int32) (1 : Int32)) = own_sel b (0 : Int32) (1 : Int32) := by cases b <;> decide
section OwnRet
variable {p : Program} {l : Launch} {e : Env} {R : Room} {s : State} {m : MethodId} {args : Array Value} {below : List Frame} {meth : Method} {c : Code} {T : State} {locs : List Loc} {cells slots : Nat}
theorem own_retN (X : Stand p l e R s m args below meth c T locs cells slots) (hx : p.tables.exec = Jvm.exec) {pc : Nat} {Ls : Array Slot} {z : Int32} {t : FieldType} {rest : List Value} (hret : meth.sig.returnType = some t) (ht : t = .boolean ∨ t = .byte ∨ t = .char ∨ t = .short)
    (hd : decode c.code pc = .ok (.ireturn, 1)) (hz : nar t z = z) {fs : List Frame} (hl : ∀ (f : JFrame) (acts : List Action), f.method = m → f.locked = none → f.entered = [] → (doReturn e (T.setTop f) acts (some (.int z))).1 = T.setFrames fs) :
    Steps p.tables e below (T.setTop (mkF m pc Ls (.int z :: rest))) (T.setFrames fs) :=
  retN X hx hret ht hd (by rw [hz]; exact hl)
end OwnRet
theorem own_keep_eq {h h' : Heap} {ws : List Addr} (e : h' = h) : Keep h h' ws := by subst e; exact Keep.refl _ _
abbrev own_rem (x y : Int32) : Int32 := x % y
theorem own_irem {tb : Tables} [Ours tb] {e : Env} {below : List Frame} {T target : State} {m : MethodId} {c : Code} {g : JFrame} (h : At T m c below) (hx : tb.exec = Jvm.exec) (hg : g.method = m) {x y : Int32} {rest : List Value} (hd : decode c.code g.pc = .ok (.irem, 1)) (hs : g.stack = .int y :: .int x :: rest) (hy : y ≠ 0)
    (hr : Steps tb e below (T.setTop { g with pc := g.pc + 1, stack := .int (own_rem x y) :: rest }) target) : Steps tb e below (T.setTop g) target :=
  XS.irem h hx hg hd hs hy (by rw [Jvm.irem_eq_mod]; exact hr)
theorem own_stand_le {p : Program} {l : Launch} {e : Env} {R : Room} {s : State} {m : MethodId} {args : Array Value} {below : List Frame} {meth : Method} {c : Code} {T : State} {locs : List Loc} {cells slots cells' slots' : Nat} (X : Stand p l e R s m args below meth c T locs cells slots) (h1 : cells ≤ cells') (h2 : slots ≤ slots') : Stand p l e R s m args below meth c T locs cells' slots' :=
  { X with same := X.same.mono h1 h2 }
theorem own_sta_keep {Z : State} {h h' : Heap} {C n d : String} {v : Value} (S : Sta Z h C n d v) (K : Keep h h' []) : Sta Z h' C n d v := by
  obtain ⟨cf, i, k, f, st, cell, h1, h2, h3, h4, h5, h6, h7⟩ := S
  exact ⟨cf, i, k, f, st, cell, h1, h2, h3, h4, K.2.1 _ _ h5 List.not_mem_nil, h6, h7⟩
theorem d1_0 : decode method_2_code 0 = .ok (.iload_n 0, 1) := by decide +kernel
theorem d1_1 : decode method_2_code 1 = .ok (.iconst 2, 1) := by decide +kernel
theorem d1_2 : decode method_2_code 2 = .ok (.iload_n 1, 1) := by decide +kernel
theorem d1_3 : decode method_2_code 3 = .ok (.imul, 1) := by decide +kernel
theorem d1_4 : decode method_2_code 4 = .ok (.iushr, 1) := by decide +kernel
theorem d1_5 : decode method_2_code 5 = .ok (.iconst 3, 1) := by decide +kernel
theorem d1_6 : decode method_2_code 6 = .ok (.iand, 1) := by decide +kernel
theorem d1_7 : decode method_2_code 7 = .ok (.ireturn, 1) := by decide +kernel
theorem pn_1 : plainName "com/example/libpiecewise/libpiecewise/DfaRunPinLaw" = true := by first | (simp [plainName, overriddenIn]; done) | decide +kernel
theorem ef_1 (m : MethodId) (x0 : Int32) (x1 : Int32) : entryFrame m #[(.int x0), (.int x1)] 2 = mkF m 0 #[.val (.int x0), .val (.int x1)] [] := by first | (simp [entryFrame, mkF, argsToLocals, Value.category]; done) | rfl
theorem d2_0 : decode prog_12_method_1_code 0 = .ok (.aload_n 0, 1) := by decide +kernel
theorem d2_1 : decode prog_12_method_1_code 1 = .ok (.invokespecial 1, 3) := by decide +kernel
theorem d2_4 : decode prog_12_method_1_code 4 = .ok (.aload 4, 2) := by decide +kernel
theorem d2_6 : decode prog_12_method_1_code 6 = .ok (.arraylength, 1) := by decide +kernel
theorem d2_7 : decode prog_12_method_1_code 7 = .ok (.aload_n 3, 1) := by decide +kernel
theorem d2_8 : decode prog_12_method_1_code 8 = .ok (.arraylength, 1) := by decide +kernel
theorem d2_9 : decode prog_12_method_1_code 9 = .ok (.iload_n 1, 1) := by decide +kernel
theorem d2_10 : decode prog_12_method_1_code 10 = .ok (.imul, 1) := by decide +kernel
theorem d2_11 : decode prog_12_method_1_code 11 = .ok (.if_icmp .eq 44, 3) := by decide +kernel
theorem d2_55 : decode prog_12_method_1_code 55 = .ok (.aload_n 0, 1) := by decide +kernel
theorem d2_56 : decode prog_12_method_1_code 56 = .ok (.iload_n 1, 1) := by decide +kernel
theorem d2_57 : decode prog_12_method_1_code 57 = .ok (.putfield 26, 3) := by decide +kernel
theorem d2_60 : decode prog_12_method_1_code 60 = .ok (.aload_n 0, 1) := by decide +kernel
theorem d2_61 : decode prog_12_method_1_code 61 = .ok (.iload_n 2, 1) := by decide +kernel
theorem d2_62 : decode prog_12_method_1_code 62 = .ok (.putfield 32, 3) := by decide +kernel
theorem d2_65 : decode prog_12_method_1_code 65 = .ok (.aload_n 0, 1) := by decide +kernel
theorem d2_66 : decode prog_12_method_1_code 66 = .ok (.aload_n 3, 1) := by decide +kernel
theorem d2_67 : decode prog_12_method_1_code 67 = .ok (.putfield 35, 3) := by decide +kernel
theorem d2_70 : decode prog_12_method_1_code 70 = .ok (.aload_n 0, 1) := by decide +kernel
theorem d2_71 : decode prog_12_method_1_code 71 = .ok (.aload 4, 2) := by decide +kernel
theorem d2_73 : decode prog_12_method_1_code 73 = .ok (.putfield 39, 3) := by decide +kernel
theorem d2_76 : decode prog_12_method_1_code 76 = .ok (.return_, 1) := by decide +kernel
theorem pn_2 : plainName "com/example/libpiecewise/libpiecewise/Dfa" = true := by first | (simp [plainName, overriddenIn]; done) | decide +kernel
theorem ef_2 (m : MethodId) (x0 : Addr) (x1 : Int32) (x2 : Int32) (x3 : Addr) (x4 : Addr) : entryFrame m #[(.ref x0), (.int x1), (.int x2), (.ref x3), (.ref x4)] 5 = mkF m 0 #[.val (.ref x0), .val (.int x1), .val (.int x2), .val (.ref x3), .val (.ref x4)] [] := by first | (simp [entryFrame, mkF, argsToLocals, Value.category]; done) | rfl
theorem d4_0 : decode method_3_code 0 = .ok (.iload_n 0, 1) := by decide +kernel
theorem d4_1 : decode method_3_code 1 = .ok (.iconst 2, 1) := by decide +kernel
theorem d4_2 : decode method_3_code 2 = .ok (.iconst 3, 1) := by decide +kernel
theorem d4_3 : decode method_3_code 3 = .ok (.iload_n 1, 1) := by decide +kernel
theorem d4_4 : decode method_3_code 4 = .ok (.imul, 1) := by decide +kernel
theorem d4_5 : decode method_3_code 5 = .ok (.iload_n 2, 1) := by decide +kernel
theorem d4_6 : decode method_3_code 6 = .ok (.iadd, 1) := by decide +kernel
theorem d4_7 : decode method_3_code 7 = .ok (.imul, 1) := by decide +kernel
theorem d4_8 : decode method_3_code 8 = .ok (.iushr, 1) := by decide +kernel
theorem d4_9 : decode method_3_code 9 = .ok (.iconst 3, 1) := by decide +kernel
theorem d4_10 : decode method_3_code 10 = .ok (.iand, 1) := by decide +kernel
theorem d4_11 : decode method_3_code 11 = .ok (.ireturn, 1) := by decide +kernel
theorem pn_4 : plainName "com/example/libpiecewise/libpiecewise/DfaRunPinLaw" = true := by first | (simp [plainName, overriddenIn]; done) | decide +kernel
theorem ef_4 (m : MethodId) (x0 : Int32) (x1 : Int32) (x2 : Int32) : entryFrame m #[(.int x0), (.int x1), (.int x2)] 3 = mkF m 0 #[.val (.int x0), .val (.int x1), .val (.int x2)] [] := by first | (simp [entryFrame, mkF, argsToLocals, Value.category]; done) | rfl
theorem d5_0 : decode prog_12_method_8_code 0 = .ok (.iload_n 1, 1) := by decide +kernel
theorem d5_1 : decode prog_12_method_8_code 1 = .ok (.istore_n 3, 1) := by decide +kernel
theorem d5_2 : decode prog_12_method_8_code 2 = .ok (.aload_n 2, 1) := by decide +kernel
theorem d5_3 : decode prog_12_method_8_code 3 = .ok (.astore 4, 2) := by decide +kernel
theorem d5_5 : decode prog_12_method_8_code 5 = .ok (.aload 4, 2) := by decide +kernel
theorem d5_7 : decode prog_12_method_8_code 7 = .ok (.arraylength, 1) := by decide +kernel
theorem d5_8 : decode prog_12_method_8_code 8 = .ok (.istore 5, 2) := by decide +kernel
theorem d5_10 : decode prog_12_method_8_code 10 = .ok (.iconst 0, 1) := by decide +kernel
theorem d5_11 : decode prog_12_method_8_code 11 = .ok (.istore 6, 2) := by decide +kernel
theorem d5_13 : decode prog_12_method_8_code 13 = .ok (.iload 6, 2) := by decide +kernel
theorem d5_15 : decode prog_12_method_8_code 15 = .ok (.iload 5, 2) := by decide +kernel
theorem d5_17 : decode prog_12_method_8_code 17 = .ok (.if_icmp .ge 31, 3) := by decide +kernel
theorem d5_48 : decode prog_12_method_8_code 48 = .ok (.iload_n 3, 1) := by decide +kernel
theorem d5_49 : decode prog_12_method_8_code 49 = .ok (.ireturn, 1) := by decide +kernel
theorem pn_5 : plainName "com/example/libpiecewise/libpiecewise/Dfa" = true := by first | (simp [plainName, overriddenIn]; done) | decide +kernel
theorem ef_5 (m : MethodId) (x0 : Addr) (x1 : Int32) (x2 : Addr) : entryFrame m #[(.ref x0), (.int x1), (.ref x2)] 8 = mkF m 0 #[.val (.ref x0), .val (.int x1), .val (.ref x2), .unset, .unset, .unset, .unset, .unset] [] := by first | (simp [entryFrame, mkF, argsToLocals, Value.category]; done) | rfl
theorem d5_20 : decode prog_12_method_8_code 20 = .ok (.aload 4, 2) := by decide +kernel
theorem d5_22 : decode prog_12_method_8_code 22 = .ok (.iload 6, 2) := by decide +kernel
theorem d5_24 : decode prog_12_method_8_code 24 = .ok (.iaload, 1) := by decide +kernel
theorem d5_25 : decode prog_12_method_8_code 25 = .ok (.istore 7, 2) := by decide +kernel
theorem d5_27 : decode prog_12_method_8_code 27 = .ok (.aload_n 0, 1) := by decide +kernel
theorem d5_28 : decode prog_12_method_8_code 28 = .ok (.getfield 39, 3) := by decide +kernel
theorem d5_31 : decode prog_12_method_8_code 31 = .ok (.iload_n 3, 1) := by decide +kernel
theorem d5_32 : decode prog_12_method_8_code 32 = .ok (.aload_n 0, 1) := by decide +kernel
theorem d5_33 : decode prog_12_method_8_code 33 = .ok (.getfield 26, 3) := by decide +kernel
theorem d5_36 : decode prog_12_method_8_code 36 = .ok (.imul, 1) := by decide +kernel
theorem d5_37 : decode prog_12_method_8_code 37 = .ok (.iload 7, 2) := by decide +kernel
theorem d5_39 : decode prog_12_method_8_code 39 = .ok (.iadd, 1) := by decide +kernel
theorem d5_40 : decode prog_12_method_8_code 40 = .ok (.iaload, 1) := by decide +kernel
theorem d5_41 : decode prog_12_method_8_code 41 = .ok (.istore_n 3, 1) := by decide +kernel
theorem d5_42 : decode prog_12_method_8_code 42 = .ok (.iinc 6 1, 3) := by decide +kernel
theorem d5_45 : decode prog_12_method_8_code 45 = .ok (.goto (-32), 3) := by decide +kernel
theorem os5_25 {z0 : Value} {s1 : Slot} {s2 : Slot} {z3 : Value} {z4 : Value} {z5 : Value} {z6 : Value} {s7 : Slot} {v : Int32} (h : One s7) : storeLocals #[.val z0, s1, s2, .val z3, .val z4, .val z5, .val z6, s7] 7 (.int v) = some #[.val z0, s1, s2, .val z3, .val z4, .val z5, .val z6, .val (.int v)] := by
  rcases h with rfl | ⟨w, rfl, hw⟩
  · rfl
  · cases w <;> first | rfl | (simp [Value.category] at hw)
theorem os0_4 {s0 : Slot} {s1 : Slot} {s2 : Slot} {s3 : Slot} {s4 : Slot} {s5 : Slot} {s6 : Slot} {s7 : Slot} {s8 : Slot} {s9 : Slot} {s10 : Slot} {s11 : Slot} {s12 : Slot} {s13 : Slot} {s14 : Slot} {s15 : Slot} {s16 : Slot} {v : Addr} (h : One s3) : storeLocals #[s0, s1, s2, s3, s4, s5, s6, s7, s8, s9, s10, s11, s12, s13, s14, s15, s16] 3 (.ref v) = some #[s0, s1, s2, .val (.ref v), s4, s5, s6, s7, s8, s9, s10, s11, s12, s13, s14, s15, s16] := by
  rcases h with rfl | ⟨w, rfl, hw⟩
  · rfl
  · cases w <;> first | rfl | (simp [Value.category] at hw)
theorem pd_0_0 : parseMethodDescriptor "(II)I" = some ⟨[.int, .int], some .int⟩ := by decide +kernel
theorem pd_0_1 : parseMethodDescriptor "(II[Z[I)V" = some ⟨[.int, .int, (.array .boolean), (.array .int)], none⟩ := by decide +kernel
theorem os0_126 {s0 : Slot} {s1 : Slot} {s2 : Slot} {z3 : Value} {s4 : Slot} {s5 : Slot} {s6 : Slot} {s7 : Slot} {s8 : Slot} {s9 : Slot} {s10 : Slot} {s11 : Slot} {s12 : Slot} {s13 : Slot} {s14 : Slot} {s15 : Slot} {s16 : Slot} {v : Addr} (h : One s4) : storeLocals #[s0, s1, s2, .val z3, s4, s5, s6, s7, s8, s9, s10, s11, s12, s13, s14, s15, s16] 4 (.ref v) = some #[s0, s1, s2, .val z3, .val (.ref v), s5, s6, s7, s8, s9, s10, s11, s12, s13, s14, s15, s16] := by
  rcases h with rfl | ⟨w, rfl, hw⟩
  · rfl
  · cases w <;> first | rfl | (simp [Value.category] at hw)
theorem os0_131 {s0 : Slot} {z1 : Value} {z2 : Value} {s3 : Slot} {s4 : Slot} {s5 : Slot} {s6 : Slot} {s7 : Slot} {s8 : Slot} {s9 : Slot} {s10 : Slot} {s11 : Slot} {s12 : Slot} {s13 : Slot} {s14 : Slot} {s15 : Slot} {s16 : Slot} {v : Int32} (h : One s5) : storeLocals #[s0, .val z1, .val z2, s3, s4, s5, s6, s7, s8, s9, s10, s11, s12, s13, s14, s15, s16] 5 (.int v) = some #[s0, .val z1, .val z2, s3, s4, .val (.int v), s6, s7, s8, s9, s10, s11, s12, s13, s14, s15, s16] := by
  rcases h with rfl | ⟨w, rfl, hw⟩
  · rfl
  · cases w <;> first | rfl | (simp [Value.category] at hw)
theorem os0_139 {s0 : Slot} {z1 : Value} {z2 : Value} {s3 : Slot} {s4 : Slot} {z5 : Value} {s6 : Slot} {s7 : Slot} {s8 : Slot} {s9 : Slot} {s10 : Slot} {s11 : Slot} {s12 : Slot} {s13 : Slot} {s14 : Slot} {s15 : Slot} {s16 : Slot} {v : Int32} (h : One s6) : storeLocals #[s0, .val z1, .val z2, s3, s4, .val z5, s6, s7, s8, s9, s10, s11, s12, s13, s14, s15, s16] 6 (.int v) = some #[s0, .val z1, .val z2, s3, s4, .val z5, .val (.int v), s7, s8, s9, s10, s11, s12, s13, s14, s15, s16] := by
  rcases h with rfl | ⟨w, rfl, hw⟩
  · rfl
  · cases w <;> first | rfl | (simp [Value.category] at hw)
theorem os0_148 {s0 : Slot} {z1 : Value} {z2 : Value} {s3 : Slot} {s4 : Slot} {z5 : Value} {z6 : Value} {s7 : Slot} {s8 : Slot} {s9 : Slot} {s10 : Slot} {s11 : Slot} {s12 : Slot} {s13 : Slot} {s14 : Slot} {s15 : Slot} {s16 : Slot} {v : Int32} (h : One s7) : storeLocals #[s0, .val z1, .val z2, s3, s4, .val z5, .val z6, s7, s8, s9, s10, s11, s12, s13, s14, s15, s16] 7 (.int v) = some #[s0, .val z1, .val z2, s3, s4, .val z5, .val z6, .val (.int v), s8, s9, s10, s11, s12, s13, s14, s15, s16] := by
  rcases h with rfl | ⟨w, rfl, hw⟩
  · rfl
  · cases w <;> first | rfl | (simp [Value.category] at hw)
theorem os0_157 {s0 : Slot} {z1 : Value} {z2 : Value} {s3 : Slot} {s4 : Slot} {z5 : Value} {z6 : Value} {z7 : Value} {s8 : Slot} {s9 : Slot} {s10 : Slot} {s11 : Slot} {s12 : Slot} {s13 : Slot} {s14 : Slot} {s15 : Slot} {s16 : Slot} {v : Int32} (h : One s8) : storeLocals #[s0, .val z1, .val z2, s3, s4, .val z5, .val z6, .val z7, s8, s9, s10, s11, s12, s13, s14, s15, s16] 8 (.int v) = some #[s0, .val z1, .val z2, s3, s4, .val z5, .val z6, .val z7, .val (.int v), s9, s10, s11, s12, s13, s14, s15, s16] := by
  rcases h with rfl | ⟨w, rfl, hw⟩
  · rfl
  · cases w <;> first | rfl | (simp [Value.category] at hw)
theorem os0_167 {s0 : Slot} {z1 : Value} {z2 : Value} {s3 : Slot} {s4 : Slot} {z5 : Value} {z6 : Value} {z7 : Value} {z8 : Value} {s9 : Slot} {s10 : Slot} {s11 : Slot} {s12 : Slot} {s13 : Slot} {s14 : Slot} {s15 : Slot} {s16 : Slot} {v : Int32} (h : One s9) : storeLocals #[s0, .val z1, .val z2, s3, s4, .val z5, .val z6, .val z7, .val z8, s9, s10, s11, s12, s13, s14, s15, s16] 9 (.int v) = some #[s0, .val z1, .val z2, s3, s4, .val z5, .val z6, .val z7, .val z8, .val (.int v), s10, s11, s12, s13, s14, s15, s16] := by
  rcases h with rfl | ⟨w, rfl, hw⟩
  · rfl
  · cases w <;> first | rfl | (simp [Value.category] at hw)
theorem os0_177 {s0 : Slot} {z1 : Value} {z2 : Value} {s3 : Slot} {s4 : Slot} {z5 : Value} {z6 : Value} {z7 : Value} {z8 : Value} {z9 : Value} {s10 : Slot} {s11 : Slot} {s12 : Slot} {s13 : Slot} {s14 : Slot} {s15 : Slot} {s16 : Slot} {v : Int32} (h : One s10) : storeLocals #[s0, .val z1, .val z2, s3, s4, .val z5, .val z6, .val z7, .val z8, .val z9, s10, s11, s12, s13, s14, s15, s16] 10 (.int v) = some #[s0, .val z1, .val z2, s3, s4, .val z5, .val z6, .val z7, .val z8, .val z9, .val (.int v), s11, s12, s13, s14, s15, s16] := by
  rcases h with rfl | ⟨w, rfl, hw⟩
  · rfl
  · cases w <;> first | rfl | (simp [Value.category] at hw)
theorem pd_0_3 : parseMethodDescriptor "(III)I" = some ⟨[.int, .int, .int], some .int⟩ := by decide +kernel
theorem os0_297 {z0 : Value} {s1 : Slot} {s2 : Slot} {s3 : Slot} {s4 : Slot} {z5 : Value} {s6 : Slot} {z7 : Value} {z8 : Value} {z9 : Value} {z10 : Value} {s11 : Slot} {s12 : Slot} {s13 : Slot} {s14 : Slot} {s15 : Slot} {s16 : Slot} {v : Int32} (h : One s12) : storeLocals #[.val z0, s1, s2, s3, s4, .val z5, s6, .val z7, .val z8, .val z9, .val z10, s11, s12, s13, s14, s15, s16] 12 (.int v) = some #[.val z0, s1, s2, s3, s4, .val z5, s6, .val z7, .val z8, .val z9, .val z10, s11, .val (.int v), s13, s14, s15, s16] := by
  rcases h with rfl | ⟨w, rfl, hw⟩
  · rfl
  · cases w <;> first | rfl | (simp [Value.category] at hw)
theorem os0_307 {z0 : Value} {s1 : Slot} {s2 : Slot} {s3 : Slot} {s4 : Slot} {z5 : Value} {s6 : Slot} {z7 : Value} {z8 : Value} {z9 : Value} {z10 : Value} {s11 : Slot} {z12 : Value} {s13 : Slot} {s14 : Slot} {s15 : Slot} {s16 : Slot} {v : Int32} (h : One s13) : storeLocals #[.val z0, s1, s2, s3, s4, .val z5, s6, .val z7, .val z8, .val z9, .val z10, s11, .val z12, s13, s14, s15, s16] 13 (.int v) = some #[.val z0, s1, s2, s3, s4, .val z5, s6, .val z7, .val z8, .val z9, .val z10, s11, .val z12, .val (.int v), s14, s15, s16] := by
  rcases h with rfl | ⟨w, rfl, hw⟩
  · rfl
  · cases w <;> first | rfl | (simp [Value.category] at hw)
theorem os0_317 {z0 : Value} {s1 : Slot} {s2 : Slot} {s3 : Slot} {s4 : Slot} {z5 : Value} {s6 : Slot} {z7 : Value} {z8 : Value} {z9 : Value} {z10 : Value} {s11 : Slot} {z12 : Value} {z13 : Value} {s14 : Slot} {s15 : Slot} {s16 : Slot} {v : Int32} (h : One s14) : storeLocals #[.val z0, s1, s2, s3, s4, .val z5, s6, .val z7, .val z8, .val z9, .val z10, s11, .val z12, .val z13, s14, s15, s16] 14 (.int v) = some #[.val z0, s1, s2, s3, s4, .val z5, s6, .val z7, .val z8, .val z9, .val z10, s11, .val z12, .val z13, .val (.int v), s15, s16] := by
  rcases h with rfl | ⟨w, rfl, hw⟩
  · rfl
  · cases w <;> first | rfl | (simp [Value.category] at hw)
theorem os0_327 {z0 : Value} {s1 : Slot} {s2 : Slot} {s3 : Slot} {s4 : Slot} {z5 : Value} {s6 : Slot} {z7 : Value} {z8 : Value} {z9 : Value} {z10 : Value} {s11 : Slot} {z12 : Value} {z13 : Value} {z14 : Value} {s15 : Slot} {s16 : Slot} {v : Int32} (h : One s15) : storeLocals #[.val z0, s1, s2, s3, s4, .val z5, s6, .val z7, .val z8, .val z9, .val z10, s11, .val z12, .val z13, .val z14, s15, s16] 15 (.int v) = some #[.val z0, s1, s2, s3, s4, .val z5, s6, .val z7, .val z8, .val z9, .val z10, s11, .val z12, .val z13, .val z14, .val (.int v), s16] := by
  rcases h with rfl | ⟨w, rfl, hw⟩
  · rfl
  · cases w <;> first | rfl | (simp [Value.category] at hw)
theorem pd_0_4 : parseMethodDescriptor "(I[I)I" = some ⟨[.int, (.array .int)], some .int⟩ := by decide +kernel
theorem os0_187 {s0 : Slot} {s1 : Slot} {s2 : Slot} {s3 : Slot} {s4 : Slot} {s5 : Slot} {z6 : Value} {s7 : Slot} {s8 : Slot} {s9 : Slot} {s10 : Slot} {s11 : Slot} {s12 : Slot} {s13 : Slot} {s14 : Slot} {s15 : Slot} {s16 : Slot} {v : Addr} (h : One s11) : storeLocals #[s0, s1, s2, s3, s4, s5, .val z6, s7, s8, s9, s10, s11, s12, s13, s14, s15, s16] 11 (.ref v) = some #[s0, s1, s2, s3, s4, s5, .val z6, s7, s8, s9, s10, .val (.ref v), s12, s13, s14, s15, s16] := by
  rcases h with rfl | ⟨w, rfl, hw⟩
  · rfl
  · cases w <;> first | rfl | (simp [Value.category] at hw)
theorem os0_206 {s0 : Slot} {s1 : Slot} {s2 : Slot} {s3 : Slot} {s4 : Slot} {s5 : Slot} {z6 : Value} {z7 : Value} {s8 : Slot} {s9 : Slot} {s10 : Slot} {s11 : Slot} {s12 : Slot} {s13 : Slot} {s14 : Slot} {s15 : Slot} {s16 : Slot} {v : Addr} (h : One s11) : storeLocals #[s0, s1, s2, s3, s4, s5, .val z6, .val z7, s8, s9, s10, s11, s12, s13, s14, s15, s16] 11 (.ref v) = some #[s0, s1, s2, s3, s4, s5, .val z6, .val z7, s8, s9, s10, .val (.ref v), s12, s13, s14, s15, s16] := by
  rcases h with rfl | ⟨w, rfl, hw⟩
  · rfl
  · cases w <;> first | rfl | (simp [Value.category] at hw)
theorem os0_230 {s0 : Slot} {s1 : Slot} {s2 : Slot} {s3 : Slot} {s4 : Slot} {s5 : Slot} {z6 : Value} {z7 : Value} {z8 : Value} {s9 : Slot} {s10 : Slot} {s11 : Slot} {s12 : Slot} {s13 : Slot} {s14 : Slot} {s15 : Slot} {s16 : Slot} {v : Addr} (h : One s11) : storeLocals #[s0, s1, s2, s3, s4, s5, .val z6, .val z7, .val z8, s9, s10, s11, s12, s13, s14, s15, s16] 11 (.ref v) = some #[s0, s1, s2, s3, s4, s5, .val z6, .val z7, .val z8, s9, s10, .val (.ref v), s12, s13, s14, s15, s16] := by
  rcases h with rfl | ⟨w, rfl, hw⟩
  · rfl
  · cases w <;> first | rfl | (simp [Value.category] at hw)
theorem os0_259 {s0 : Slot} {s1 : Slot} {s2 : Slot} {s3 : Slot} {s4 : Slot} {s5 : Slot} {z6 : Value} {z7 : Value} {z8 : Value} {z9 : Value} {s10 : Slot} {s11 : Slot} {s12 : Slot} {s13 : Slot} {s14 : Slot} {s15 : Slot} {s16 : Slot} {v : Addr} (h : One s11) : storeLocals #[s0, s1, s2, s3, s4, s5, .val z6, .val z7, .val z8, .val z9, s10, s11, s12, s13, s14, s15, s16] 11 (.ref v) = some #[s0, s1, s2, s3, s4, s5, .val z6, .val z7, .val z8, .val z9, s10, .val (.ref v), s12, s13, s14, s15, s16] := by
  rcases h with rfl | ⟨w, rfl, hw⟩
  · rfl
  · cases w <;> first | rfl | (simp [Value.category] at hw)
theorem os0_287 {s0 : Slot} {s1 : Slot} {s2 : Slot} {s3 : Slot} {s4 : Slot} {s5 : Slot} {z6 : Value} {z7 : Value} {z8 : Value} {z9 : Value} {z10 : Value} {s11 : Slot} {s12 : Slot} {s13 : Slot} {s14 : Slot} {s15 : Slot} {s16 : Slot} {v : Addr} (h : One s11) : storeLocals #[s0, s1, s2, s3, s4, s5, .val z6, .val z7, .val z8, .val z9, .val z10, s11, s12, s13, s14, s15, s16] 11 (.ref v) = some #[s0, s1, s2, s3, s4, s5, .val z6, .val z7, .val z8, .val z9, .val z10, .val (.ref v), s12, s13, s14, s15, s16] := by
  rcases h with rfl | ⟨w, rfl, hw⟩
  · rfl
  · cases w <;> first | rfl | (simp [Value.category] at hw)
theorem os0_336 {s0 : Slot} {s1 : Slot} {s2 : Slot} {s3 : Slot} {s4 : Slot} {z5 : Value} {z6 : Value} {s7 : Slot} {s8 : Slot} {s9 : Slot} {s10 : Slot} {s11 : Slot} {s12 : Slot} {s13 : Slot} {s14 : Slot} {s15 : Slot} {s16 : Slot} {v : Int32} (h : One s16) : storeLocals #[s0, s1, s2, s3, s4, .val z5, .val z6, s7, s8, s9, s10, s11, s12, s13, s14, s15, s16] 16 (.int v) = some #[s0, s1, s2, s3, s4, .val z5, .val z6, s7, s8, s9, s10, s11, s12, s13, s14, s15, .val (.int v)] := by
  rcases h with rfl | ⟨w, rfl, hw⟩
  · rfl
  · cases w <;> first | rfl | (simp [Value.category] at hw)
theorem os0_349 {s0 : Slot} {s1 : Slot} {s2 : Slot} {s3 : Slot} {s4 : Slot} {s5 : Slot} {z6 : Value} {s7 : Slot} {s8 : Slot} {s9 : Slot} {s10 : Slot} {s11 : Slot} {z12 : Value} {s13 : Slot} {s14 : Slot} {s15 : Slot} {s16 : Slot} {v : Int32} (h : One s16) : storeLocals #[s0, s1, s2, s3, s4, s5, .val z6, s7, s8, s9, s10, s11, .val z12, s13, s14, s15, s16] 16 (.int v) = some #[s0, s1, s2, s3, s4, s5, .val z6, s7, s8, s9, s10, s11, .val z12, s13, s14, s15, .val (.int v)] := by
  rcases h with rfl | ⟨w, rfl, hw⟩
  · rfl
  · cases w <;> first | rfl | (simp [Value.category] at hw)
theorem os0_362 {s0 : Slot} {s1 : Slot} {s2 : Slot} {s3 : Slot} {s4 : Slot} {s5 : Slot} {z6 : Value} {s7 : Slot} {s8 : Slot} {s9 : Slot} {s10 : Slot} {s11 : Slot} {s12 : Slot} {z13 : Value} {s14 : Slot} {s15 : Slot} {s16 : Slot} {v : Int32} (h : One s16) : storeLocals #[s0, s1, s2, s3, s4, s5, .val z6, s7, s8, s9, s10, s11, s12, .val z13, s14, s15, s16] 16 (.int v) = some #[s0, s1, s2, s3, s4, s5, .val z6, s7, s8, s9, s10, s11, s12, .val z13, s14, s15, .val (.int v)] := by
  rcases h with rfl | ⟨w, rfl, hw⟩
  · rfl
  · cases w <;> first | rfl | (simp [Value.category] at hw)
theorem os0_375 {s0 : Slot} {s1 : Slot} {s2 : Slot} {s3 : Slot} {s4 : Slot} {s5 : Slot} {z6 : Value} {s7 : Slot} {s8 : Slot} {s9 : Slot} {s10 : Slot} {s11 : Slot} {s12 : Slot} {s13 : Slot} {z14 : Value} {s15 : Slot} {s16 : Slot} {v : Int32} (h : One s16) : storeLocals #[s0, s1, s2, s3, s4, s5, .val z6, s7, s8, s9, s10, s11, s12, s13, .val z14, s15, s16] 16 (.int v) = some #[s0, s1, s2, s3, s4, s5, .val z6, s7, s8, s9, s10, s11, s12, s13, .val z14, s15, .val (.int v)] := by
  rcases h with rfl | ⟨w, rfl, hw⟩
  · rfl
  · cases w <;> first | rfl | (simp [Value.category] at hw)
theorem os0_382 {s0 : Slot} {s1 : Slot} {s2 : Slot} {s3 : Slot} {s4 : Slot} {s5 : Slot} {z6 : Value} {s7 : Slot} {s8 : Slot} {s9 : Slot} {s10 : Slot} {s11 : Slot} {s12 : Slot} {s13 : Slot} {s14 : Slot} {z15 : Value} {s16 : Slot} {v : Int32} (h : One s16) : storeLocals #[s0, s1, s2, s3, s4, s5, .val z6, s7, s8, s9, s10, s11, s12, s13, s14, .val z15, s16] 16 (.int v) = some #[s0, s1, s2, s3, s4, s5, .val z6, s7, s8, s9, s10, s11, s12, s13, s14, .val z15, .val (.int v)] := by
  rcases h with rfl | ⟨w, rfl, hw⟩
  · rfl
  · cases w <;> first | rfl | (simp [Value.category] at hw)
theorem pn_0 : plainName "com/example/libpiecewise/libpiecewise/DfaRunPinLaw" = true := by first | (simp [plainName, overriddenIn]; done) | decide +kernel
theorem ef_0 (m : MethodId) (x0 : Int32) (x1 : Int32) (x2 : Int32) : entryFrame m #[(.int x0), (.int x1), (.int x2)] maxLocals = mkF m 0 #[.val (.int x0), .val (.int x1), .val (.int x2), .unset, .unset, .unset, .unset, .unset, .unset, .unset, .unset, .unset, .unset, .unset, .unset, .unset, .unset] [] := by first | (simp [entryFrame, mkF, argsToLocals, Value.category, maxLocals]; done) | rfl
abbrev own_edge (t i : Int32) : Int32 := (((t.toUInt32 >>> (((2 : Int32) * i) &&& 31).toUInt32).toInt32) &&& (3 : Int32))
abbrev own_delta (t q a : Int32) : Int32 := (((t.toUInt32 >>> (((2 : Int32) * (((3 : Int32) * q) + a)) &&& 31).toUInt32).toInt32) &&& (3 : Int32))
def own_edges (t : Int32) : List Value := [.int (own_edge t (0 : Int32)), .int (own_edge t (1 : Int32)), .int (own_edge t (2 : Int32)), .int (own_edge t (3 : Int32)), .int (own_edge t (4 : Int32)), .int (own_edge t (5 : Int32)), .int (own_edge t (6 : Int32)), .int (own_edge t (7 : Int32)), .int (own_edge t (8 : Int32)), .int (own_edge t (9 : Int32)), .int (own_edge t (10 : Int32)), .int (own_edge t (11 : Int32))]
def own_fold (t : Int32) : Int32 → List Int32 → Int32
  | q, [] => q
  | q, a :: r => own_fold t (own_delta t q a) r
theorem own_and3 (x : Int32) : 0 ≤ (x &&& (3 : Int32)).toInt ∧ (x &&& (3 : Int32)).toInt ≤ 3 := by
  have h1 := c_mask x 3 2 (by decide) (by decide)
  omega
theorem own_rem3 (x : Int32) : 0 ≤ (own_rem (x &&& (3 : Int32)) (3 : Int32)).toInt ∧ (own_rem (x &&& (3 : Int32)) (3 : Int32)).toInt ≤ 2 := by
  have h1 := own_and3 x
  have h2 := (c_irem (x &&& (3 : Int32)) 3 3 (by decide)).1 (by omega)
  simp only [own_rem] at *
  omega
theorem own_rem5 (x : Int32) : 0 ≤ (own_rem (x &&& (7 : Int32)) (5 : Int32)).toInt ∧ (own_rem (x &&& (7 : Int32)) (5 : Int32)).toInt ≤ 4 := by
  have h1 := c_mask x 7 3 (by decide) (by decide)
  have h2 := (c_irem (x &&& (7 : Int32)) 5 5 (by decide)).1 (by omega)
  simp only [own_rem] at *
  omega
theorem own_lit (x : Int32) (k : Nat) (hk : k < 100) (h : x.toInt = k) : x = Int32.ofNat k := by
  apply Int32.toInt_inj.mp
  rw [Int32.toInt_ofNat_small (by omega)]
  exact h
theorem own_q4 (q : Int32) (h : 0 ≤ q.toInt ∧ q.toInt ≤ 3) : q = 0 ∨ q = 1 ∨ q = 2 ∨ q = 3 := by
  have : q.toInt = 0 ∨ q.toInt = 1 ∨ q.toInt = 2 ∨ q.toInt = 3 := by omega
  rcases this with h | h | h | h
  · exact Or.inl (own_lit q 0 (by omega) h)
  · exact Or.inr (Or.inl (own_lit q 1 (by omega) h))
  · exact Or.inr (Or.inr (Or.inl (own_lit q 2 (by omega) h)))
  · exact Or.inr (Or.inr (Or.inr (own_lit q 3 (by omega) h)))
theorem own_a3 (q : Int32) (h : 0 ≤ q.toInt ∧ q.toInt ≤ 2) : q = 0 ∨ q = 1 ∨ q = 2 := by
  rcases own_q4 q ⟨h.1, by omega⟩ with r | r | r | r
  · exact Or.inl r
  · exact Or.inr (Or.inl r)
  · exact Or.inr (Or.inr r)
  · subst r; have : (3 : Int32).toInt = 3 := rfl
    omega
theorem own_n5 (q : Int32) (h : 0 ≤ q.toInt ∧ q.toInt ≤ 4) : q = 0 ∨ q = 1 ∨ q = 2 ∨ q = 3 ∨ q = 4 := by
  by_cases h4 : q.toInt = 4
  · exact Or.inr (Or.inr (Or.inr (Or.inr (own_lit q 4 (by omega) h4))))
  · rcases own_q4 q ⟨h.1, by omega⟩ with r | r | r | r
    · exact Or.inl r
    · exact Or.inr (Or.inl r)
    · exact Or.inr (Or.inr (Or.inl r))
    · exact Or.inr (Or.inr (Or.inr (Or.inl r)))
/-- the place q * 3 + a of the table, and what it holds -/
theorem own_at (t q a : Int32) (hq : 0 ≤ q.toInt ∧ q.toInt ≤ 3) (ha : 0 ≤ a.toInt ∧ a.toInt ≤ 2) : ¬ ((q * (3 : Int32)) + a) < 0 ∧ ((q * (3 : Int32)) + a) < (12 : Int32) ∧ (own_edges t).getD ((q * (3 : Int32)) + a).toNatClampNeg (.int 0) = .int (own_delta t q a) := by
  rcases own_q4 q hq with rfl | rfl | rfl | rfl <;> rcases own_a3 a ha with rfl | rfl | rfl <;> exact ⟨by decide, by decide, rfl⟩
theorem own_i32 {i : Nat} (h : i ≤ 255) : (Int32.ofNat i).toInt = i := Int32.toInt_ofNat_small (by omega)
theorem own_n32 {i : Nat} (h : i ≤ 255) : (Int32.ofNat i).toNatClampNeg = i := by
  show (Int32.ofNat i).toInt.toNat = i
  rw [own_i32 h]; rfl
theorem own_nn {i : Nat} (h : i ≤ 255) : ¬ Int32.ofNat i < 0 := by
  rw [Int32.lt_iff_toInt_lt, own_i32 h]
  have : (0 : Int32).toInt = 0 := rfl
  omega
theorem own_lt {i n : Nat} (h : i < n) (hn : n ≤ 255) : Int32.ofNat i < Int32.ofNat n := by
  rw [Int32.lt_iff_toInt_lt, own_i32 hn, own_i32 (by omega)]; omega
theorem own_one (i : Nat) : Int32.ofNat i + (1 : Int32) = Int32.ofNat (i + 1) := (Int32.ofNat_succ i)
theorem own_get (ls : List Int32) (i : Nat) (h : i < ls.length) : (ls.map Value.int).getD i (.int 0) = .int ls[i] := by
  rw [List.getD_eq_getElem?_getD, List.getElem?_map, List.getElem?_eq_getElem h]; rfl
theorem own_drop (t q : Int32) (ls : List Int32) (i : Nat) (h : i < ls.length) : own_fold t q (ls.drop i) = own_fold t (own_delta t q ls[i]) (ls.drop (i + 1)) := by
  rw [List.drop_eq_getElem_cons h]; rfl
/-- an array of n ints -/
def own_arr (Z : State) (h : Heap) (a : Addr) (n : Nat) (f : Nat → Int32) : Prop := ∃ c : Cell, Arr Z h a c .int ∧ c.slots.size = n ∧ ∀ j, j < n → c.slots[j]? = some (.int (f j))
theorem own_arr.lt {Z : State} {h : Heap} {a : Addr} {n : Nat} {f : Nat → Int32} (F : own_arr Z h a n f) : a < h.size := by obtain ⟨c, A, -⟩ := F; exact A.lt
theorem own_arr.ext {Z : State} {h h' : Heap} {a : Addr} {n : Nat} {f : Nat → Int32} (F : own_arr Z h a n f) (E : Ext h h') : own_arr Z h' a n f := by obtain ⟨c, A, r⟩ := F; exact ⟨c, A.ext E, r⟩
theorem own_arr.keep {Z : State} {h h' : Heap} {a : Addr} {n : Nat} {f : Nat → Int32} (F : own_arr Z h a n f) (K : Keep h h' []) : own_arr Z h' a n f := by obtain ⟨c, A, r⟩ := F; exact ⟨c, ⟨K.2.1 a c A.1 List.not_mem_nil, A.2⟩, r⟩
theorem own_arr.other {Z : State} {h h' : Heap} {a b : Addr} {n sl : Nat} {v : Value} {f : Nat → Int32} (F : own_arr Z h a n f) (W : Wr h h' b sl v) (q : a ≠ b) : own_arr Z h' a n f := by obtain ⟨c, A, r⟩ := F; exact ⟨c, A.other W q, r⟩
theorem own_arr.congr {Z : State} {h : Heap} {a : Addr} {n : Nat} {f g : Nat → Int32} (F : own_arr Z h a n f) (q : ∀ j, j < n → f j = g j) : own_arr Z h a n g := by
  obtain ⟨c, A, S, H⟩ := F
  exact ⟨c, A, S, fun j hj => by rw [H j hj, q j hj]⟩
theorem own_in {c : Cell} {n j : Nat} (S : c.slots.size = n) (hj : j < n) (hn : n ≤ 255) : ¬ (Int32.ofNat j < 0 ∨ c.slots.size ≤ (Int32.ofNat j).toNatClampNeg) := by
  rw [S, own_n32 (by omega)]
  exact fun q => q.elim (own_nn (by omega)) (fun q => by omega)
theorem own_hat {c : Cell} {n j : Nat} {f : Nat → Int32} (H : ∀ j, j < n → c.slots[j]? = some (.int (f j))) (hj : j < n) (hn : n ≤ 255) : c.slots[(Int32.ofNat j).toNatClampNeg]? = some (.int (f j)) := by
  rw [own_n32 (by omega)]; exact H j hj
theorem own_set {c : Cell} {n j : Nat} {v : Value} {g : Nat → Value} (S : c.slots.size = n) (H : ∀ j, j < n → c.slots[j]? = some (g j)) (hj : j < n) (hn : n ≤ 255) : (c.setSlot (Int32.ofNat j).toNatClampNeg v).slots.size = n ∧ ∀ i, i < n → (c.setSlot (Int32.ofNat j).toNatClampNeg v).slots[i]? = some (if i = j then v else g i) := by
  rw [own_n32 (by omega)]
  refine ⟨by simp [Cell.setSlot, S], fun i hi => ?_⟩
  show (c.slots.setIfInBounds j v)[i]? = _
  rw [Array.getElem?_setIfInBounds]
  by_cases e : i = j
  · subst e; rw [if_pos rfl, if_pos (by omega), if_pos rfl]
  · rw [if_neg (fun q => e q.symm), if_neg e]; exact H i hi
theorem own_arr.set {Z : State} {h h' : Heap} {a : Addr} {c : Cell} {n j : Nat} {x : Int32} {f : Nat → Int32} (A : Arr Z h a c .int) (S : c.slots.size = n) (H : ∀ j, j < n → c.slots[j]? = some (.int (f j))) (W : Wr h h' a (Int32.ofNat j).toNatClampNeg (.int x)) (hj : j < n) (hn : n ≤ 255) : own_arr Z h' a n (fun i => if i = j then x else f i) := by
  obtain ⟨s1, s2⟩ := own_set (v := .int x) (g := fun i => .int (f i)) S H hj hn
  refine ⟨_, A.same W, s1, fun i hi => ?_⟩
  rw [s2 i hi]
  show some (if i = j then Value.int x else Value.int (f i)) = some (Value.int (if i = j then x else f i))
  by_cases e : i = j
  · rw [if_pos e, if_pos e]
  · rw [if_neg e, if_neg e]
theorem own_arr.new {Z : State} {h : Heap} {a : Addr} {k : ClassId} {n : Nat} (A : Arr Z h a (newA k .int (Int32.ofNat n)) .int) (hn : n ≤ 255) : own_arr Z h a n (fun _ => 0) := by
  refine ⟨_, A, by rw [sz_new, own_n32 hn], fun j hj => ?_⟩
  have := get_new (cA := k) (ty := .int) (n := Int32.ofNat n) (k := Int32.ofNat j) (by rw [own_n32 hn, own_n32 (by omega)]; exact fun q => q.elim (own_nn (by omega)) (fun q => by omega))
  rw [own_n32 (by omega)] at this
  exact this
def Q1 (Z : State) (p1 : Int32) (p2 : Int32) (h0 : Heap) (n0 : Nat) (v : Option Value) (h : Heap) (L : List Loc) : Prop := v = some (.int (((p1.toUInt32 >>> (((2 : Int32) * p2) &&& 31).toUInt32).toInt32) &&& (3 : Int32))) ∧ Fr n0 L ∧ h = h0
set_option maxRecDepth 65536 in
set_option maxHeartbeats 40000000 in
theorem rm1 (l : Launch) (Z : State) (a0 : Array Value) (hw : ∀ d ∈ tables_1, d.before a0 Z = true) (ws : List Jvm.Cond) (p1 : Int32) (p2 : Int32) (h0 : Heap) (n0 : Nat) (Z0 : n0 ≤ h0.size) :
    MetFree l (⟨"com/example/libpiecewise/libpiecewise/DfaRunPinLaw", "edge", "(II)I"⟩ : MethodName) (head1 (Jvm.Cond.code (⟨"com/example/libpiecewise/libpiecewise/DfaRunPinLaw", "edge", "(II)I"⟩ : MethodName) method_2_code 2 (some .int) :: ws) ({ frames := 0, cells := 0, slots := 0, locals := 0 } : Room)) (fun a U => a = #[(.int p1), (.int p2)] ∧ Z.Warmed39 U.vm ∧ U.heap = h0) (fun _ _ _ _ _ => True) (fun _ U o U' => ∃ v L, o = .returned v ∧ Q1 Z p1 p2 h0 n0 v U'.heap L ∧ FrameEnd U o U' L ({ frames := 0, cells := 0, slots := 0, locals := 0 } : Room).cells ({ frames := 0, cells := 0, slots := 0, locals := 0 } : Room).slots) := by
  refine MetFree.of_bodySF (plainFor_of_name pn_1) hisR ?_
  intro p e s m args below meth c s₁ Bd hml0 hP hK
  obtain ⟨rfl, hZ, hh⟩ := hP
  have hx := Bd.exec
  have hby := Bd.bytes
  have hml : c.maxLocals = 2 := hml0
  have hown : s.vm.findClass "com/example/libpiecewise/libpiecewise/DfaRunPinLaw" = some m.cls := findClass_of_methodNamed Bd.named
  have hnm := (name_of_methodNamed Bd.named Bd.method).1
  have X0 : Stand p l e ({ frames := 0, cells := 0, slots := 0, locals := 0 } : Room) s m #[(.int p1), (.int p2)] below meth c s₁ [] 0 0 := Stand.of_body Bd
  have e0 : s₁.heap = h0 := by rw [← hh, Bd.state]; rfl
  have N0 := Fr.nil n0
  have pre0 : ∀ t, Steps p.tables e below (s₁.setTop (mkF m 0 #[.val (.int p1), .val (.int p2)] [])) t → Steps p.tables e below (s₁.setTop (entryFrame m #[(.int p1), (.int p2)] 2)) t := fun t k => castTop (ef_1 m p1 p2) k

  obtain ⟨fs, hr, hrun, hended, hW, hsame⟩ := X0.leave (v := some (.int (((p1.toUInt32 >>> (((2 : Int32) * p2) &&& 31).toUInt32).toInt32) &&& (3 : Int32)))) (fun h => by rw [Bd.returns] at h; cases h)
  refine ⟨_, _, pre0 _ ?_, hrun, hended, _, _, rfl, ?_, ⟨_, rfl⟩, hW, hsame.mono (by decide) (by decide)⟩
  · show Steps p.tables e below (s₁.setTop (mkF m 0 #[.val (.int p1), .val (.int p2)] [])) _
    refine XS.iloadN X0.here hx rfl (hb hby d1_0) rfl ?_
    show Steps p.tables e below (s₁.setTop (mkF m 1 #[.val (.int p1), .val (.int p2)] [(.int p1)])) _
    refine XS.iconst X0.here hx rfl (hb hby d1_1) ?_
    show Steps p.tables e below (s₁.setTop (mkF m 2 #[.val (.int p1), .val (.int p2)] [(.int (2 : Int32)), (.int p1)])) _
    refine XS.iloadN X0.here hx rfl (hb hby d1_2) rfl ?_
    show Steps p.tables e below (s₁.setTop (mkF m 3 #[.val (.int p1), .val (.int p2)] [(.int p2), (.int (2 : Int32)), (.int p1)])) _
    refine XS.imul X0.here hx rfl (hb hby d1_3) rfl ?_
    show Steps p.tables e below (s₁.setTop (mkF m 4 #[.val (.int p1), .val (.int p2)] [(.int ((2 : Int32) * p2)), (.int p1)])) _
    refine XS.iushr X0.here hx rfl (hb hby d1_4) rfl ?_
    show Steps p.tables e below (s₁.setTop (mkF m 5 #[.val (.int p1), .val (.int p2)] [(.int ((p1.toUInt32 >>> (((2 : Int32) * p2) &&& 31).toUInt32).toInt32))])) _
    refine XS.iconst X0.here hx rfl (hb hby d1_5) ?_
    show Steps p.tables e below (s₁.setTop (mkF m 6 #[.val (.int p1), .val (.int p2)] [(.int (3 : Int32)), (.int ((p1.toUInt32 >>> (((2 : Int32) * p2) &&& 31).toUInt32).toInt32))])) _
    refine XS.iand X0.here hx rfl (hb hby d1_6) rfl ?_
    show Steps p.tables e below (s₁.setTop (mkF m 7 #[.val (.int p1), .val (.int p2)] [(.int (((p1.toUInt32 >>> (((2 : Int32) * p2) &&& 31).toUInt32).toInt32) &&& (3 : Int32)))])) _
    exact retI X0 hx Bd.returns (hb hby d1_7) hr      -- retI stands in the head ('lawwalk <made dir>' prints it)
  · show Q1 Z p1 p2 h0 n0 _ s₁.heap _
    rw [e0]
    exact ⟨rfl, N0, rfl⟩

def Q2 (Z : State) (a1 : Addr) (p2 : Int32) (p3 : Int32) (a4 : Addr) (a5 : Addr) (cl_a5 : Cell) (z_a5 : Int32) (cl_a4 : Cell) (z_a4 : Int32) (u_letterCount_a1 : Value) (u_initialState_a1 : Value) (u_accepting_a1 : Value) (u_next_a1 : Value) (h0 : Heap) (n0 : Nat) (v : Option Value) (h : Heap) (L : List Loc) : Prop := v = none ∧ Fr n0 L ∧ Keep h0 h [a1] ∧ Exa Z h a1 "com/example/libpiecewise/libpiecewise/Dfa" ∧ Fld Z h a1 "com/example/libpiecewise/libpiecewise/Dfa" "letterCount" "I" (.int p2) ∧ Fld Z h a1 "com/example/libpiecewise/libpiecewise/Dfa" "initialState" "I" (.int p3) ∧ Fld Z h a1 "com/example/libpiecewise/libpiecewise/Dfa" "accepting" "[Z" (.ref a4) ∧ Fld Z h a1 "com/example/libpiecewise/libpiecewise/Dfa" "next" "[I" (.ref a5)
set_option maxRecDepth 65536 in
set_option maxHeartbeats 40000000 in
theorem rm2 (l : Launch) (Z : State) (a0 : Array Value) (hw : ∀ d ∈ tables_1, d.before a0 Z = true) (ws : List Jvm.Cond) (a1 : Addr) (p2 : Int32) (p3 : Int32) (a4 : Addr) (a5 : Addr) (cl_a5 : Cell) (z_a5 : Int32) (cl_a4 : Cell) (z_a4 : Int32) (u_letterCount_a1 : Value) (u_initialState_a1 : Value) (u_accepting_a1 : Value) (u_next_a1 : Value) (h0 : Heap) (n0 : Nat) (Z0 : n0 ≤ h0.size) (Ar_a5 : Arr Z h0 a5 cl_a5 .int) (S_a5 : cl_a5.slots.size = z_a5.toNatClampNeg) (N_a5 : ¬ z_a5 < 0) (Ar_a4 : Arr Z h0 a4 cl_a4 .boolean) (S_a4 : cl_a4.slots.size = z_a4.toNatClampNeg) (N_a4 : ¬ z_a4 < 0) (E_a1 : Exa Z h0 a1 "com/example/libpiecewise/libpiecewise/Dfa") (F_letterCount_a1 : Fld Z h0 a1 "com/example/libpiecewise/libpiecewise/Dfa" "letterCount" "I" u_letterCount_a1) (g_a1 : n0 ≤ a1) (F_initialState_a1 : Fld Z h0 a1 "com/example/libpiecewise/libpiecewise/Dfa" "initialState" "I" u_initialState_a1) (F_accepting_a1 : Fld Z h0 a1 "com/example/libpiecewise/libpiecewise/Dfa" "accepting" "[Z" u_accepting_a1) (F_next_a1 : Fld Z h0 a1 "com/example/libpiecewise/libpiecewise/Dfa" "next" "[I" u_next_a1) (hc11 : z_a5 = (z_a4 * p2)) :
    MetFree l (⟨"com/example/libpiecewise/libpiecewise/Dfa", "<init>", "(II[Z[I)V"⟩ : MethodName) (head1 (Jvm.Cond.code (⟨"com/example/libpiecewise/libpiecewise/Dfa", "<init>", "(II[Z[I)V"⟩ : MethodName) prog_12_method_1_code 5 none :: ws) ({ frames := 1, cells := 0, slots := 0, locals := 12 } : Room)) (fun a U => a = #[(.ref a1), (.int p2), (.int p3), (.ref a4), (.ref a5)] ∧ Z.Warmed39 U.vm ∧ U.heap = h0) (fun _ _ _ _ _ => True) (fun _ U o U' => ∃ v L, o = .returned v ∧ Q2 Z a1 p2 p3 a4 a5 cl_a5 z_a5 cl_a4 z_a4 u_letterCount_a1 u_initialState_a1 u_accepting_a1 u_next_a1 h0 n0 v U'.heap L ∧ FrameEnd U o U' L ({ frames := 1, cells := 0, slots := 0, locals := 12 } : Room).cells ({ frames := 1, cells := 0, slots := 0, locals := 12 } : Room).slots) := by
  refine MetFree.of_bodySF (plainFor_of_name pn_2) hisR ?_
  intro p e s m args below meth c s₁ Bd hml0 hP hK
  obtain ⟨rfl, hZ, hh⟩ := hP
  have hx := Bd.exec
  have hby := Bd.bytes
  have hml : c.maxLocals = 5 := hml0
  have hown : s.vm.findClass "com/example/libpiecewise/libpiecewise/Dfa" = some m.cls := findClass_of_methodNamed Bd.named
  have hnm := (name_of_methodNamed Bd.named Bd.method).1
  have X0 : Stand p l e ({ frames := 1, cells := 0, slots := 0, locals := 12 } : Room) s m #[(.ref a1), (.int p2), (.int p3), (.ref a4), (.ref a5)] below meth c s₁ [] 0 0 := Stand.of_body Bd
  have e0 : s₁.heap = h0 := by rw [← hh, Bd.state]; rfl
  have N0 := Fr.nil n0
  have pre0 : ∀ t, Steps p.tables e below (s₁.setTop (mkF m 0 #[.val (.ref a1), .val (.int p2), .val (.int p3), .val (.ref a4), .val (.ref a5)] [])) t → Steps p.tables e below (s₁.setTop (entryFrame m #[(.ref a1), (.int p2), (.int p3), (.ref a4), (.ref a5)] 5)) t := fun t k => castTop (ef_2 m a1 p2 p3 a4 a5) k
  obtain ⟨T6, X6, e6, st6⟩ := initO X0 hx hZ hown (hw _ (List.mem_of_getElem? (i := 12) rfl)) (hw _ (List.mem_of_getElem? (i := 13) rfl)) (hw _ (List.mem_of_getElem? (i := 14) rfl)) e0 (g := (mkF m 1 #[.val (.ref a1), .val (.int p2), .val (.int p3), .val (.ref a4), .val (.ref a5)] [(.ref a1)])) rfl (by rw [hml]; rfl) rfl (hb hby d2_1) (by decide) (W := 0) (by show 2 * 0 + _ ≤ _; exact Nat.le_of_eq rfl) (by decide)
  obtain ⟨T7, h7, X7, e7, W7, st7⟩ := putF X6 hx hZ hown (host := "") (Or.inl (hw _ (List.mem_of_getElem? (i := 15) rfl))) Via.refl e6 F_letterCount_a1 E_a1 (Or.inr ⟨(hw _ (List.mem_of_getElem? (i := 16) rfl)), rfl, hnm⟩) (hw _ (List.mem_of_getElem? (i := 6) rfl)) (ty := .int) (by decide) rfl rfl (g := (mkF m 57 #[.val (.ref a1), .val (.int p2), .val (.int p3), .val (.ref a4), .val (.ref a5)] [(.int p2), (.ref a1)])) rfl rfl (hb hby d2_57)
  have Fw7 := F_letterCount_a1.same W7      -- the field now holds (.int p2)
  have K7 : Keep h0 h7 [a1] := (Keep.refl h0 [a1]).wr W7 (Or.inl (List.mem_of_getElem? (i := 0) rfl))
  have N7 := Fr.snoc X7 N0 g_a1
  obtain ⟨T8, h8, X8, e8, W8, st8⟩ := putF X7 hx hZ hown (host := "") (Or.inl (hw _ (List.mem_of_getElem? (i := 17) rfl))) Via.refl e7 (F_initialState_a1.other W7 (Or.inr (slot_ne (Or.inr (hw _ (List.mem_of_getElem? (i := 18) rfl))) (Or.inr (hw _ (List.mem_of_getElem? (i := 16) rfl))) (by decide) (t := .int) (t' := .int) (by decide) (by decide)))) (E_a1.wr W7) (Or.inr ⟨(hw _ (List.mem_of_getElem? (i := 18) rfl)), rfl, hnm⟩) (hw _ (List.mem_of_getElem? (i := 6) rfl)) (ty := .int) (by decide) rfl rfl (g := (mkF m 62 #[.val (.ref a1), .val (.int p2), .val (.int p3), .val (.ref a4), .val (.ref a5)] [(.int p3), (.ref a1)])) rfl rfl (hb hby d2_62)
  have Fw8 := (F_initialState_a1.other W7 (Or.inr (slot_ne (Or.inr (hw _ (List.mem_of_getElem? (i := 18) rfl))) (Or.inr (hw _ (List.mem_of_getElem? (i := 16) rfl))) (by decide) (t := .int) (t' := .int) (by decide) (by decide)))).same W8      -- the field now holds (.int p3)
  have K8 : Keep h0 h8 [a1] := K7.wr W8 (Or.inl (List.mem_of_getElem? (i := 0) rfl))
  have N8 := Fr.snoc X8 N7 g_a1
  obtain ⟨T9, h9, X9, e9, W9, st9⟩ := putF X8 hx hZ hown (host := "") (Or.inl (hw _ (List.mem_of_getElem? (i := 19) rfl))) Via.refl e8 ((F_accepting_a1.other W7 (Or.inr (slot_ne (Or.inr (hw _ (List.mem_of_getElem? (i := 20) rfl))) (Or.inr (hw _ (List.mem_of_getElem? (i := 16) rfl))) (by decide) (t := (.array .boolean)) (t' := .int) (by decide) (by decide)))).other W8 (Or.inr (slot_ne (Or.inr (hw _ (List.mem_of_getElem? (i := 20) rfl))) (Or.inr (hw _ (List.mem_of_getElem? (i := 18) rfl))) (by decide) (t := (.array .boolean)) (t' := .int) (by decide) (by decide)))) ((E_a1.wr W7).wr W8) (Or.inr ⟨(hw _ (List.mem_of_getElem? (i := 20) rfl)), rfl, hnm⟩) (hw _ (List.mem_of_getElem? (i := 6) rfl)) (ty := (.array .boolean)) (by decide) rfl rfl (g := (mkF m 67 #[.val (.ref a1), .val (.int p2), .val (.int p3), .val (.ref a4), .val (.ref a5)] [(.ref a4), (.ref a1)])) rfl rfl (hb hby d2_67)
  have Fw9 := ((F_accepting_a1.other W7 (Or.inr (slot_ne (Or.inr (hw _ (List.mem_of_getElem? (i := 20) rfl))) (Or.inr (hw _ (List.mem_of_getElem? (i := 16) rfl))) (by decide) (t := (.array .boolean)) (t' := .int) (by decide) (by decide)))).other W8 (Or.inr (slot_ne (Or.inr (hw _ (List.mem_of_getElem? (i := 20) rfl))) (Or.inr (hw _ (List.mem_of_getElem? (i := 18) rfl))) (by decide) (t := (.array .boolean)) (t' := .int) (by decide) (by decide)))).same W9      -- the field now holds (.ref a4)
  have K9 : Keep h0 h9 [a1] := K8.wr W9 (Or.inl (List.mem_of_getElem? (i := 0) rfl))
  have N9 := Fr.snoc X9 N8 g_a1
  obtain ⟨T10, h10, X10, e10, W10, st10⟩ := putF X9 hx hZ hown (host := "") (Or.inl (hw _ (List.mem_of_getElem? (i := 21) rfl))) Via.refl e9 (((F_next_a1.other W7 (Or.inr (slot_ne (Or.inr (hw _ (List.mem_of_getElem? (i := 22) rfl))) (Or.inr (hw _ (List.mem_of_getElem? (i := 16) rfl))) (by decide) (t := (.array .int)) (t' := .int) (by decide) (by decide)))).other W8 (Or.inr (slot_ne (Or.inr (hw _ (List.mem_of_getElem? (i := 22) rfl))) (Or.inr (hw _ (List.mem_of_getElem? (i := 18) rfl))) (by decide) (t := (.array .int)) (t' := .int) (by decide) (by decide)))).other W9 (Or.inr (slot_ne (Or.inr (hw _ (List.mem_of_getElem? (i := 22) rfl))) (Or.inr (hw _ (List.mem_of_getElem? (i := 20) rfl))) (by decide) (t := (.array .int)) (t' := (.array .boolean)) (by decide) (by decide)))) (((E_a1.wr W7).wr W8).wr W9) (Or.inr ⟨(hw _ (List.mem_of_getElem? (i := 22) rfl)), rfl, hnm⟩) (hw _ (List.mem_of_getElem? (i := 6) rfl)) (ty := (.array .int)) (by decide) rfl rfl (g := (mkF m 73 #[.val (.ref a1), .val (.int p2), .val (.int p3), .val (.ref a4), .val (.ref a5)] [(.ref a5), (.ref a1)])) rfl rfl (hb hby d2_73)
  have Fw10 := (((F_next_a1.other W7 (Or.inr (slot_ne (Or.inr (hw _ (List.mem_of_getElem? (i := 22) rfl))) (Or.inr (hw _ (List.mem_of_getElem? (i := 16) rfl))) (by decide) (t := (.array .int)) (t' := .int) (by decide) (by decide)))).other W8 (Or.inr (slot_ne (Or.inr (hw _ (List.mem_of_getElem? (i := 22) rfl))) (Or.inr (hw _ (List.mem_of_getElem? (i := 18) rfl))) (by decide) (t := (.array .int)) (t' := .int) (by decide) (by decide)))).other W9 (Or.inr (slot_ne (Or.inr (hw _ (List.mem_of_getElem? (i := 22) rfl))) (Or.inr (hw _ (List.mem_of_getElem? (i := 20) rfl))) (by decide) (t := (.array .int)) (t' := (.array .boolean)) (by decide) (by decide)))).same W10      -- the field now holds (.ref a5)
  have K10 : Keep h0 h10 [a1] := K9.wr W10 (Or.inl (List.mem_of_getElem? (i := 0) rfl))
  have N10 := Fr.snoc X10 N9 g_a1
  obtain ⟨fs, hr, hrun, hended, hW, hsame⟩ := X10.leave (v := none) (fun _ => rfl)
  refine ⟨_, _, pre0 _ ?_, hrun, hended, _, _, rfl, ?_, ⟨_, rfl⟩, hW, hsame.mono (by decide) (by decide)⟩
  · show Steps p.tables e below (s₁.setTop (mkF m 0 #[.val (.ref a1), .val (.int p2), .val (.int p3), .val (.ref a4), .val (.ref a5)] [])) _
    refine XS.aloadN X0.here hx rfl (hb hby d2_0) rfl rfl ?_
    show Steps p.tables e below (s₁.setTop (mkF m 1 #[.val (.ref a1), .val (.int p2), .val (.int p3), .val (.ref a4), .val (.ref a5)] [(.ref a1)])) _
    refine st6 _ ?_
    show Steps p.tables e below (T6.setTop (mkF m 4 #[.val (.ref a1), .val (.int p2), .val (.int p3), .val (.ref a4), .val (.ref a5)] [])) _
    refine XS.aload X6.here hx rfl (hb hby d2_4) rfl rfl ?_
    show Steps p.tables e below (T6.setTop (mkF m 6 #[.val (.ref a1), .val (.int p2), .val (.int p3), .val (.ref a4), .val (.ref a5)] [(.ref a5)])) _
    refine X6.arraylength hx (by rw [e6]; exact Ar_a5.1) (State.isArrayOf_alike hZ.alike Ar_a5.2.1) (g := (mkF m 6 #[.val (.ref a1), .val (.int p2), .val (.int p3), .val (.ref a4), .val (.ref a5)] [(.ref a5)])) rfl rfl (hb hby d2_6) _ ?_
    rw [len_of S_a5 N_a5]
    show Steps p.tables e below (T6.setTop (mkF m 7 #[.val (.ref a1), .val (.int p2), .val (.int p3), .val (.ref a4), .val (.ref a5)] [(.int z_a5)])) _
    refine XS.aloadN X6.here hx rfl (hb hby d2_7) rfl rfl ?_
    show Steps p.tables e below (T6.setTop (mkF m 8 #[.val (.ref a1), .val (.int p2), .val (.int p3), .val (.ref a4), .val (.ref a5)] [(.ref a4), (.int z_a5)])) _
    refine X6.arraylength hx (by rw [e6]; exact Ar_a4.1) (State.isArrayOf_alike hZ.alike Ar_a4.2.1) (g := (mkF m 8 #[.val (.ref a1), .val (.int p2), .val (.int p3), .val (.ref a4), .val (.ref a5)] [(.ref a4), (.int z_a5)])) rfl rfl (hb hby d2_8) _ ?_
    rw [len_of S_a4 N_a4]
    show Steps p.tables e below (T6.setTop (mkF m 9 #[.val (.ref a1), .val (.int p2), .val (.int p3), .val (.ref a4), .val (.ref a5)] [(.int z_a4), (.int z_a5)])) _
    refine XS.iloadN X6.here hx rfl (hb hby d2_9) rfl ?_
    show Steps p.tables e below (T6.setTop (mkF m 10 #[.val (.ref a1), .val (.int p2), .val (.int p3), .val (.ref a4), .val (.ref a5)] [(.int p2), (.int z_a4), (.int z_a5)])) _
    refine XS.imul X6.here hx rfl (hb hby d2_10) rfl ?_
    show Steps p.tables e below (T6.setTop (mkF m 11 #[.val (.ref a1), .val (.int p2), .val (.int p3), .val (.ref a4), .val (.ref a5)] [(.int (z_a4 * p2)), (.int z_a5)])) _
    refine XS.icmpYes X6.here hx rfl (pc0 := 11) (pc' := 55) rfl (hb hby d2_11) rfl (teq hc11).1 (by decide) (by decide) ?_
    show Steps p.tables e below (T6.setTop (mkF m 55 #[.val (.ref a1), .val (.int p2), .val (.int p3), .val (.ref a4), .val (.ref a5)] [])) _
    refine XS.aloadN X6.here hx rfl (hb hby d2_55) rfl rfl ?_
    show Steps p.tables e below (T6.setTop (mkF m 56 #[.val (.ref a1), .val (.int p2), .val (.int p3), .val (.ref a4), .val (.ref a5)] [(.ref a1)])) _
    refine XS.iloadN X6.here hx rfl (hb hby d2_56) rfl ?_
    show Steps p.tables e below (T6.setTop (mkF m 57 #[.val (.ref a1), .val (.int p2), .val (.int p3), .val (.ref a4), .val (.ref a5)] [(.int p2), (.ref a1)])) _
    refine st7 _ ?_
    show Steps p.tables e below (T7.setTop (mkF m 60 #[.val (.ref a1), .val (.int p2), .val (.int p3), .val (.ref a4), .val (.ref a5)] [])) _
    refine XS.aloadN X7.here hx rfl (hb hby d2_60) rfl rfl ?_
    show Steps p.tables e below (T7.setTop (mkF m 61 #[.val (.ref a1), .val (.int p2), .val (.int p3), .val (.ref a4), .val (.ref a5)] [(.ref a1)])) _
    refine XS.iloadN X7.here hx rfl (hb hby d2_61) rfl ?_
    show Steps p.tables e below (T7.setTop (mkF m 62 #[.val (.ref a1), .val (.int p2), .val (.int p3), .val (.ref a4), .val (.ref a5)] [(.int p3), (.ref a1)])) _
    refine st8 _ ?_
    show Steps p.tables e below (T8.setTop (mkF m 65 #[.val (.ref a1), .val (.int p2), .val (.int p3), .val (.ref a4), .val (.ref a5)] [])) _
    refine XS.aloadN X8.here hx rfl (hb hby d2_65) rfl rfl ?_
    show Steps p.tables e below (T8.setTop (mkF m 66 #[.val (.ref a1), .val (.int p2), .val (.int p3), .val (.ref a4), .val (.ref a5)] [(.ref a1)])) _
    refine XS.aloadN X8.here hx rfl (hb hby d2_66) rfl rfl ?_
    show Steps p.tables e below (T8.setTop (mkF m 67 #[.val (.ref a1), .val (.int p2), .val (.int p3), .val (.ref a4), .val (.ref a5)] [(.ref a4), (.ref a1)])) _
    refine st9 _ ?_
    show Steps p.tables e below (T9.setTop (mkF m 70 #[.val (.ref a1), .val (.int p2), .val (.int p3), .val (.ref a4), .val (.ref a5)] [])) _
    refine XS.aloadN X9.here hx rfl (hb hby d2_70) rfl rfl ?_
    show Steps p.tables e below (T9.setTop (mkF m 71 #[.val (.ref a1), .val (.int p2), .val (.int p3), .val (.ref a4), .val (.ref a5)] [(.ref a1)])) _
    refine XS.aload X9.here hx rfl (hb hby d2_71) rfl rfl ?_
    show Steps p.tables e below (T9.setTop (mkF m 73 #[.val (.ref a1), .val (.int p2), .val (.int p3), .val (.ref a4), .val (.ref a5)] [(.ref a5), (.ref a1)])) _
    refine st10 _ ?_
    show Steps p.tables e below (T10.setTop (mkF m 76 #[.val (.ref a1), .val (.int p2), .val (.int p3), .val (.ref a4), .val (.ref a5)] [])) _
    exact X10.returnOut hx Bd.returns (hb hby d2_76) hr
  · show Q2 Z a1 p2 p3 a4 a5 cl_a5 z_a5 cl_a4 z_a4 u_letterCount_a1 u_initialState_a1 u_accepting_a1 u_next_a1 h0 n0 _ T10.heap _
    rw [e10]
    exact ⟨rfl, N10, K10, ((((E_a1.wr W7).wr W8).wr W9).wr W10), (((Fw7.other W8 (Or.inr (slot_ne (Or.inr (hw _ (List.mem_of_getElem? (i := 16) rfl))) (Or.inr (hw _ (List.mem_of_getElem? (i := 18) rfl))) (by decide) (t := .int) (t' := .int) (by decide) (by decide)))).other W9 (Or.inr (slot_ne (Or.inr (hw _ (List.mem_of_getElem? (i := 16) rfl))) (Or.inr (hw _ (List.mem_of_getElem? (i := 20) rfl))) (by decide) (t := .int) (t' := (.array .boolean)) (by decide) (by decide)))).other W10 (Or.inr (slot_ne (Or.inr (hw _ (List.mem_of_getElem? (i := 16) rfl))) (Or.inr (hw _ (List.mem_of_getElem? (i := 22) rfl))) (by decide) (t := .int) (t' := (.array .int)) (by decide) (by decide)))), ((Fw8.other W9 (Or.inr (slot_ne (Or.inr (hw _ (List.mem_of_getElem? (i := 18) rfl))) (Or.inr (hw _ (List.mem_of_getElem? (i := 20) rfl))) (by decide) (t := .int) (t' := (.array .boolean)) (by decide) (by decide)))).other W10 (Or.inr (slot_ne (Or.inr (hw _ (List.mem_of_getElem? (i := 18) rfl))) (Or.inr (hw _ (List.mem_of_getElem? (i := 22) rfl))) (by decide) (t := .int) (t' := (.array .int)) (by decide) (by decide)))), (Fw9.other W10 (Or.inr (slot_ne (Or.inr (hw _ (List.mem_of_getElem? (i := 20) rfl))) (Or.inr (hw _ (List.mem_of_getElem? (i := 22) rfl))) (by decide) (t := (.array .boolean)) (t' := (.array .int)) (by decide) (by decide)))), Fw10⟩

def Q4 (Z : State) (p1 : Int32) (p2 : Int32) (p3 : Int32) (h0 : Heap) (n0 : Nat) (v : Option Value) (h : Heap) (L : List Loc) : Prop := v = some (.int (((p1.toUInt32 >>> (((2 : Int32) * (((3 : Int32) * p2) + p3)) &&& 31).toUInt32).toInt32) &&& (3 : Int32))) ∧ Fr n0 L ∧ h = h0
set_option maxRecDepth 65536 in
set_option maxHeartbeats 40000000 in
theorem rm4 (l : Launch) (Z : State) (a0 : Array Value) (hw : ∀ d ∈ tables_1, d.before a0 Z = true) (ws : List Jvm.Cond) (p1 : Int32) (p2 : Int32) (p3 : Int32) (h0 : Heap) (n0 : Nat) (Z0 : n0 ≤ h0.size) :
    MetFree l (⟨"com/example/libpiecewise/libpiecewise/DfaRunPinLaw", "delta", "(III)I"⟩ : MethodName) (head1 (Jvm.Cond.code (⟨"com/example/libpiecewise/libpiecewise/DfaRunPinLaw", "delta", "(III)I"⟩ : MethodName) method_3_code 3 (some .int) :: ws) ({ frames := 0, cells := 0, slots := 0, locals := 0 } : Room)) (fun a U => a = #[(.int p1), (.int p2), (.int p3)] ∧ Z.Warmed39 U.vm ∧ U.heap = h0) (fun _ _ _ _ _ => True) (fun _ U o U' => ∃ v L, o = .returned v ∧ Q4 Z p1 p2 p3 h0 n0 v U'.heap L ∧ FrameEnd U o U' L ({ frames := 0, cells := 0, slots := 0, locals := 0 } : Room).cells ({ frames := 0, cells := 0, slots := 0, locals := 0 } : Room).slots) := by
  refine MetFree.of_bodySF (plainFor_of_name pn_4) hisR ?_
  intro p e s m args below meth c s₁ Bd hml0 hP hK
  obtain ⟨rfl, hZ, hh⟩ := hP
  have hx := Bd.exec
  have hby := Bd.bytes
  have hml : c.maxLocals = 3 := hml0
  have hown : s.vm.findClass "com/example/libpiecewise/libpiecewise/DfaRunPinLaw" = some m.cls := findClass_of_methodNamed Bd.named
  have hnm := (name_of_methodNamed Bd.named Bd.method).1
  have X0 : Stand p l e ({ frames := 0, cells := 0, slots := 0, locals := 0 } : Room) s m #[(.int p1), (.int p2), (.int p3)] below meth c s₁ [] 0 0 := Stand.of_body Bd
  have e0 : s₁.heap = h0 := by rw [← hh, Bd.state]; rfl
  have N0 := Fr.nil n0
  have pre0 : ∀ t, Steps p.tables e below (s₁.setTop (mkF m 0 #[.val (.int p1), .val (.int p2), .val (.int p3)] [])) t → Steps p.tables e below (s₁.setTop (entryFrame m #[(.int p1), (.int p2), (.int p3)] 3)) t := fun t k => castTop (ef_4 m p1 p2 p3) k

  obtain ⟨fs, hr, hrun, hended, hW, hsame⟩ := X0.leave (v := some (.int (((p1.toUInt32 >>> (((2 : Int32) * (((3 : Int32) * p2) + p3)) &&& 31).toUInt32).toInt32) &&& (3 : Int32)))) (fun h => by rw [Bd.returns] at h; cases h)
  refine ⟨_, _, pre0 _ ?_, hrun, hended, _, _, rfl, ?_, ⟨_, rfl⟩, hW, hsame.mono (by decide) (by decide)⟩
  · show Steps p.tables e below (s₁.setTop (mkF m 0 #[.val (.int p1), .val (.int p2), .val (.int p3)] [])) _
    refine XS.iloadN X0.here hx rfl (hb hby d4_0) rfl ?_
    show Steps p.tables e below (s₁.setTop (mkF m 1 #[.val (.int p1), .val (.int p2), .val (.int p3)] [(.int p1)])) _
    refine XS.iconst X0.here hx rfl (hb hby d4_1) ?_
    show Steps p.tables e below (s₁.setTop (mkF m 2 #[.val (.int p1), .val (.int p2), .val (.int p3)] [(.int (2 : Int32)), (.int p1)])) _
    refine XS.iconst X0.here hx rfl (hb hby d4_2) ?_
    show Steps p.tables e below (s₁.setTop (mkF m 3 #[.val (.int p1), .val (.int p2), .val (.int p3)] [(.int (3 : Int32)), (.int (2 : Int32)), (.int p1)])) _
    refine XS.iloadN X0.here hx rfl (hb hby d4_3) rfl ?_
    show Steps p.tables e below (s₁.setTop (mkF m 4 #[.val (.int p1), .val (.int p2), .val (.int p3)] [(.int p2), (.int (3 : Int32)), (.int (2 : Int32)), (.int p1)])) _
    refine XS.imul X0.here hx rfl (hb hby d4_4) rfl ?_
    show Steps p.tables e below (s₁.setTop (mkF m 5 #[.val (.int p1), .val (.int p2), .val (.int p3)] [(.int ((3 : Int32) * p2)), (.int (2 : Int32)), (.int p1)])) _
    refine XS.iloadN X0.here hx rfl (hb hby d4_5) rfl ?_
    show Steps p.tables e below (s₁.setTop (mkF m 6 #[.val (.int p1), .val (.int p2), .val (.int p3)] [(.int p3), (.int ((3 : Int32) * p2)), (.int (2 : Int32)), (.int p1)])) _
    refine XS.iadd X0.here hx rfl (hb hby d4_6) rfl ?_
    show Steps p.tables e below (s₁.setTop (mkF m 7 #[.val (.int p1), .val (.int p2), .val (.int p3)] [(.int (((3 : Int32) * p2) + p3)), (.int (2 : Int32)), (.int p1)])) _
    refine XS.imul X0.here hx rfl (hb hby d4_7) rfl ?_
    show Steps p.tables e below (s₁.setTop (mkF m 8 #[.val (.int p1), .val (.int p2), .val (.int p3)] [(.int ((2 : Int32) * (((3 : Int32) * p2) + p3))), (.int p1)])) _
    refine XS.iushr X0.here hx rfl (hb hby d4_8) rfl ?_
    show Steps p.tables e below (s₁.setTop (mkF m 9 #[.val (.int p1), .val (.int p2), .val (.int p3)] [(.int ((p1.toUInt32 >>> (((2 : Int32) * (((3 : Int32) * p2) + p3)) &&& 31).toUInt32).toInt32))])) _
    refine XS.iconst X0.here hx rfl (hb hby d4_9) ?_
    show Steps p.tables e below (s₁.setTop (mkF m 10 #[.val (.int p1), .val (.int p2), .val (.int p3)] [(.int (3 : Int32)), (.int ((p1.toUInt32 >>> (((2 : Int32) * (((3 : Int32) * p2) + p3)) &&& 31).toUInt32).toInt32))])) _
    refine XS.iand X0.here hx rfl (hb hby d4_10) rfl ?_
    show Steps p.tables e below (s₁.setTop (mkF m 11 #[.val (.int p1), .val (.int p2), .val (.int p3)] [(.int (((p1.toUInt32 >>> (((2 : Int32) * (((3 : Int32) * p2) + p3)) &&& 31).toUInt32).toInt32) &&& (3 : Int32)))])) _
    exact retI X0 hx Bd.returns (hb hby d4_11) hr      -- retI stands in the head ('lawwalk <made dir>' prints it)
  · show Q4 Z p1 p2 p3 h0 n0 _ s₁.heap _
    rw [e0]
    exact ⟨rfl, N0, rfl⟩

set_option maxRecDepth 65536 in
set_option maxHeartbeats 40000000 in
theorem tn5_13_13 {p : Program} {l : Launch} {e : Env} {R : Room} {s : State} {m : MethodId} {args : Array Value} {below : List Frame} {meth : Method} {c : Code} {T0 : State} {locs : List Loc} {cells slots : Nat} {Z : State} {a0 : Array Value} {h0 : Heap} (o0 : Addr) (s1 : Slot) (s2 : Slot) (i3 : Int32) (o4 : Addr) (i5 : Int32) (i6 : Int32) (s7 : Slot) (w4 : Int32) (cl_o4 : Cell) (w5 : Addr) (w7 : Int32) (w9 : Int32) (cl_w5 : Cell)
    (X0 : Stand p l e R s m args below meth c T0 locs cells slots) (hx : p.tables.exec = Jvm.exec) (hZ : Z.Warmed39 s.vm) (hw : ∀ d ∈ tables_1, d.before a0 Z = true) (hby : c.code = prog_12_method_8_code) (hml : c.maxLocals = 8) (hown : s.vm.findClass "com/example/libpiecewise/libpiecewise/Dfa" = some m.cls) (e0 : T0.heap = h0) (Ar_o4 : Arr Z h0 o4 cl_o4 .int) (hin24 : ¬ (i6 < 0 ∨ cl_o4.slots.size ≤ (i6).toNatClampNeg)) (hat24 : cl_o4.slots[(i6).toNatClampNeg]? = some (.int w4)) (hs7 : One s7) (F_next_o0 : Fld Z h0 o0 "com/example/libpiecewise/libpiecewise/Dfa" "next" "[I" (.ref w5)) (F_letterCount_o0 : Fld Z h0 o0 "com/example/libpiecewise/libpiecewise/Dfa" "letterCount" "I" (.int w7)) (Ar_w5 : Arr Z h0 w5 cl_w5 .int) (hin40 : ¬ (((i3 * w7) + w4) < 0 ∨ cl_w5.slots.size ≤ (((i3 * w7) + w4)).toNatClampNeg)) (hat40 : cl_w5.slots[(((i3 * w7) + w4)).toNatClampNeg]? = some (.int w9)) (hc17 : i6 < i5) :
    ∃ (T' : State), Stand p l e R s m args below meth c T' locs cells slots ∧ T'.heap = h0 ∧
      ∀ target, Steps p.tables e below (T'.setTop (mkF m 13 #[.val (.ref o0), s1, s2, .val (.int w9), .val (.ref o4), .val (.int i5), .val (.int (i6 + (1 : Int32))), .val (.int w4)] [])) target → Steps p.tables e below (T0.setTop (mkF m 13 #[.val (.ref o0), s1, s2, .val (.int i3), .val (.ref o4), .val (.int i5), .val (.int i6), s7] [])) target := by
  obtain ⟨T6, X6, e6, st6⟩ := getF X0 hx hZ hown (host := "") (Or.inl (hw _ (List.mem_of_getElem? (i := 21) rfl))) Via.refl e0 F_next_o0 (g := (mkF m 28 #[.val (.ref o0), s1, s2, .val (.int i3), .val (.ref o4), .val (.int i5), .val (.int i6), .val (.int w4)] [(.ref o0)])) rfl rfl (hb hby d5_28)
  obtain ⟨T8, X8, e8, st8⟩ := getF X6 hx hZ hown (host := "") (Or.inl (hw _ (List.mem_of_getElem? (i := 15) rfl))) Via.refl e6 F_letterCount_o0 (g := (mkF m 33 #[.val (.ref o0), s1, s2, .val (.int i3), .val (.ref o4), .val (.int i5), .val (.int i6), .val (.int w4)] [(.ref o0), (.int i3), (.ref w5)])) rfl rfl (hb hby d5_33)
  refine ⟨T8, X8, e8, fun target kt => ?_⟩
  show Steps p.tables e below (T0.setTop (mkF m 13 #[.val (.ref o0), s1, s2, .val (.int i3), .val (.ref o4), .val (.int i5), .val (.int i6), s7] [])) _
  refine XS.iload X0.here hx rfl (hb hby d5_13) rfl ?_
  show Steps p.tables e below (T0.setTop (mkF m 15 #[.val (.ref o0), s1, s2, .val (.int i3), .val (.ref o4), .val (.int i5), .val (.int i6), s7] [(.int i6)])) _
  refine XS.iload X0.here hx rfl (hb hby d5_15) rfl ?_
  show Steps p.tables e below (T0.setTop (mkF m 17 #[.val (.ref o0), s1, s2, .val (.int i3), .val (.ref o4), .val (.int i5), .val (.int i6), s7] [(.int i5), (.int i6)])) _
  refine XS.icmpNo X0.here hx rfl (hb hby d5_17) rfl (tlt hc17).2.1 ?_
  show Steps p.tables e below (T0.setTop (mkF m 20 #[.val (.ref o0), s1, s2, .val (.int i3), .val (.ref o4), .val (.int i5), .val (.int i6), s7] [])) _
  refine XS.aload X0.here hx rfl (hb hby d5_20) rfl rfl ?_
  show Steps p.tables e below (T0.setTop (mkF m 22 #[.val (.ref o0), s1, s2, .val (.int i3), .val (.ref o4), .val (.int i5), .val (.int i6), s7] [(.ref o4)])) _
  refine XS.iload X0.here hx rfl (hb hby d5_22) rfl ?_
  show Steps p.tables e below (T0.setTop (mkF m 24 #[.val (.ref o0), s1, s2, .val (.int i3), .val (.ref o4), .val (.int i5), .val (.int i6), s7] [(.int i6), (.ref o4)])) _
  refine X0.iaload hx (j := i6) (v := (.int w4)) (by rw [e0]; exact Ar_o4.1) (State.isArrayOf_alike hZ.alike Ar_o4.2.1) Ar_o4.2.2 hin24 hat24 (g := (mkF m 24 #[.val (.ref o0), s1, s2, .val (.int i3), .val (.ref o4), .val (.int i5), .val (.int i6), s7] [(.int i6), (.ref o4)])) rfl rfl (hb hby d5_24) _ ?_
  show Steps p.tables e below (T0.setTop (mkF m 25 #[.val (.ref o0), s1, s2, .val (.int i3), .val (.ref o4), .val (.int i5), .val (.int i6), s7] [(.int w4)])) _
  refine XS.istore X0.here hx rfl (hb hby d5_25) rfl (l' := #[.val (.ref o0), s1, s2, .val (.int i3), .val (.ref o4), .val (.int i5), .val (.int i6), .val (.int w4)]) (os5_25 hs7) ?_
  show Steps p.tables e below (T0.setTop (mkF m 27 #[.val (.ref o0), s1, s2, .val (.int i3), .val (.ref o4), .val (.int i5), .val (.int i6), .val (.int w4)] [])) _
  refine XS.aloadN X0.here hx rfl (hb hby d5_27) rfl rfl ?_
  show Steps p.tables e below (T0.setTop (mkF m 28 #[.val (.ref o0), s1, s2, .val (.int i3), .val (.ref o4), .val (.int i5), .val (.int i6), .val (.int w4)] [(.ref o0)])) _
  refine st6 _ ?_
  show Steps p.tables e below (T6.setTop (mkF m 31 #[.val (.ref o0), s1, s2, .val (.int i3), .val (.ref o4), .val (.int i5), .val (.int i6), .val (.int w4)] [(.ref w5)])) _
  refine XS.iloadN X6.here hx rfl (hb hby d5_31) rfl ?_
  show Steps p.tables e below (T6.setTop (mkF m 32 #[.val (.ref o0), s1, s2, .val (.int i3), .val (.ref o4), .val (.int i5), .val (.int i6), .val (.int w4)] [(.int i3), (.ref w5)])) _
  refine XS.aloadN X6.here hx rfl (hb hby d5_32) rfl rfl ?_
  show Steps p.tables e below (T6.setTop (mkF m 33 #[.val (.ref o0), s1, s2, .val (.int i3), .val (.ref o4), .val (.int i5), .val (.int i6), .val (.int w4)] [(.ref o0), (.int i3), (.ref w5)])) _
  refine st8 _ ?_
  show Steps p.tables e below (T8.setTop (mkF m 36 #[.val (.ref o0), s1, s2, .val (.int i3), .val (.ref o4), .val (.int i5), .val (.int i6), .val (.int w4)] [(.int w7), (.int i3), (.ref w5)])) _
  refine XS.imul X8.here hx rfl (hb hby d5_36) rfl ?_
  show Steps p.tables e below (T8.setTop (mkF m 37 #[.val (.ref o0), s1, s2, .val (.int i3), .val (.ref o4), .val (.int i5), .val (.int i6), .val (.int w4)] [(.int (i3 * w7)), (.ref w5)])) _
  refine XS.iload X8.here hx rfl (hb hby d5_37) rfl ?_
  show Steps p.tables e below (T8.setTop (mkF m 39 #[.val (.ref o0), s1, s2, .val (.int i3), .val (.ref o4), .val (.int i5), .val (.int i6), .val (.int w4)] [(.int w4), (.int (i3 * w7)), (.ref w5)])) _
  refine XS.iadd X8.here hx rfl (hb hby d5_39) rfl ?_
  show Steps p.tables e below (T8.setTop (mkF m 40 #[.val (.ref o0), s1, s2, .val (.int i3), .val (.ref o4), .val (.int i5), .val (.int i6), .val (.int w4)] [(.int ((i3 * w7) + w4)), (.ref w5)])) _
  refine X8.iaload hx (j := ((i3 * w7) + w4)) (v := (.int w9)) (by rw [e8]; exact Ar_w5.1) (State.isArrayOf_alike hZ.alike Ar_w5.2.1) Ar_w5.2.2 hin40 hat40 (g := (mkF m 40 #[.val (.ref o0), s1, s2, .val (.int i3), .val (.ref o4), .val (.int i5), .val (.int i6), .val (.int w4)] [(.int ((i3 * w7) + w4)), (.ref w5)])) rfl rfl (hb hby d5_40) _ ?_
  show Steps p.tables e below (T8.setTop (mkF m 41 #[.val (.ref o0), s1, s2, .val (.int i3), .val (.ref o4), .val (.int i5), .val (.int i6), .val (.int w4)] [(.int w9)])) _
  refine XS.istoreN X8.here hx rfl (hb hby d5_41) rfl (l' := #[.val (.ref o0), s1, s2, .val (.int w9), .val (.ref o4), .val (.int i5), .val (.int i6), .val (.int w4)]) rfl ?_
  show Steps p.tables e below (T8.setTop (mkF m 42 #[.val (.ref o0), s1, s2, .val (.int w9), .val (.ref o4), .val (.int i5), .val (.int i6), .val (.int w4)] [])) _
  refine XS.iinc X8.here hx rfl (hb hby d5_42) rfl (l' := #[.val (.ref o0), s1, s2, .val (.int w9), .val (.ref o4), .val (.int i5), .val (.int (i6 + (1 : Int32))), .val (.int w4)]) rfl ?_
  show Steps p.tables e below (T8.setTop (mkF m 45 #[.val (.ref o0), s1, s2, .val (.int w9), .val (.ref o4), .val (.int i5), .val (.int (i6 + (1 : Int32))), .val (.int w4)] [])) _
  refine XS.goto X8.here hx rfl (pc0 := 45) (pc' := 13) rfl (hb hby d5_45) (by decide) (by decide) ?_
  exact kt

set_option maxRecDepth 65536 in
set_option maxHeartbeats 40000000 in
theorem tn5_13_48 {p : Program} {l : Launch} {e : Env} {R : Room} {s : State} {m : MethodId} {args : Array Value} {below : List Frame} {meth : Method} {c : Code} {T0 : State} {locs : List Loc} {cells slots : Nat} {Z : State} {a0 : Array Value} {h0 : Heap} (s0 : Slot) (s1 : Slot) (s2 : Slot) (s3 : Slot) (s4 : Slot) (i5 : Int32) (i6 : Int32) (s7 : Slot)
    (X0 : Stand p l e R s m args below meth c T0 locs cells slots) (hx : p.tables.exec = Jvm.exec) (hZ : Z.Warmed39 s.vm) (hw : ∀ d ∈ tables_1, d.before a0 Z = true) (hby : c.code = prog_12_method_8_code) (hml : c.maxLocals = 8) (hown : s.vm.findClass "com/example/libpiecewise/libpiecewise/Dfa" = some m.cls) (e0 : T0.heap = h0) (hc17 : ¬ (i6 < i5)) :
    ∃ (T' : State), Stand p l e R s m args below meth c T' locs cells slots ∧ T'.heap = h0 ∧
      ∀ target, Steps p.tables e below (T'.setTop (mkF m 48 #[s0, s1, s2, s3, s4, .val (.int i5), .val (.int i6), s7] [])) target → Steps p.tables e below (T0.setTop (mkF m 13 #[s0, s1, s2, s3, s4, .val (.int i5), .val (.int i6), s7] [])) target := by

  refine ⟨T0, X0, e0, fun target kt => ?_⟩
  show Steps p.tables e below (T0.setTop (mkF m 13 #[s0, s1, s2, s3, s4, .val (.int i5), .val (.int i6), s7] [])) _
  refine XS.iload X0.here hx rfl (hb hby d5_13) rfl ?_
  show Steps p.tables e below (T0.setTop (mkF m 15 #[s0, s1, s2, s3, s4, .val (.int i5), .val (.int i6), s7] [(.int i6)])) _
  refine XS.iload X0.here hx rfl (hb hby d5_15) rfl ?_
  show Steps p.tables e below (T0.setTop (mkF m 17 #[s0, s1, s2, s3, s4, .val (.int i5), .val (.int i6), s7] [(.int i5), (.int i6)])) _
  refine XS.icmpYes X0.here hx rfl (pc0 := 17) (pc' := 48) rfl (hb hby d5_17) rfl (flt hc17).2.1 (by decide) (by decide) ?_
  exact kt

theorem loop5 {p : Program} {l : Launch} {e : Env} {R : Room} {s : State} {m : MethodId} {args : Array Value} {below : List Frame} {meth : Method} {c : Code} {locs : List Loc} {cells slots : Nat} {Z : State} {a0 : Array Value} {h0 : Heap} (o0 : Addr) (s1 s2 : Slot) (o4 an : Addr) (t : Int32) (ls : List Int32) (hn : ls.length ≤ 255) (hls : ∀ x ∈ ls, 0 ≤ x.toInt ∧ x.toInt ≤ 2) (hx : p.tables.exec = Jvm.exec) (hZ : Z.Warmed39 s.vm) (hw : ∀ d ∈ tables_1, d.before a0 Z = true) (hby : c.code = prog_12_method_8_code) (hml : c.maxLocals = 8) (hown : s.vm.findClass "com/example/libpiecewise/libpiecewise/Dfa" = some m.cls)
    (cw cn : Cell) (Aw : Arr Z h0 o4 cw .int) (Sw : cw.slots.size = (Int32.ofNat ls.length).toNatClampNeg) (Hw : Has cw (ls.map Value.int) (.int 0)) (An : Arr Z h0 an cn .int) (Sn : cn.slots.size = (12 : Int32).toNatClampNeg) (Hn : Has cn (own_edges t) (.int 0)) (Fn : Fld Z h0 o0 "com/example/libpiecewise/libpiecewise/Dfa" "next" "[I" (.ref an)) (Fl : Fld Z h0 o0 "com/example/libpiecewise/libpiecewise/Dfa" "letterCount" "I" (.int (3 : Int32))) :
    ∀ (k i : Nat) (q : Int32) (s7 : Slot) (T0 : State), i + k = ls.length → (0 ≤ q.toInt ∧ q.toInt ≤ 3) → One s7 → Stand p l e R s m args below meth c T0 locs cells slots → T0.heap = h0 →
      ∃ (T' : State) (s7' : Slot), Stand p l e R s m args below meth c T' locs cells slots ∧ T'.heap = h0 ∧
        ∀ target, Steps p.tables e below (T'.setTop (mkF m 48 #[.val (.ref o0), s1, s2, .val (.int (own_fold t q (ls.drop i))), .val (.ref o4), .val (.int (Int32.ofNat ls.length)), .val (.int (Int32.ofNat ls.length)), s7'] [])) target → Steps p.tables e below (T0.setTop (mkF m 13 #[.val (.ref o0), s1, s2, .val (.int q), .val (.ref o4), .val (.int (Int32.ofNat ls.length)), .val (.int (Int32.ofNat i)), s7] [])) target := by
  intro k
  induction k with
  | zero =>
    intro i q s7 T0 hi hq h7 X0 e0
    have hi' : i = ls.length := by omega
    obtain ⟨T', X', e', st⟩ := tn5_13_48 (.val (.ref o0)) s1 s2 (.val (.int q)) (.val (.ref o4)) (Int32.ofNat ls.length) (Int32.ofNat i) s7 X0 hx hZ hw hby hml hown e0 (by rw [hi']; exact Int32.lt_irrefl)
    refine ⟨T', s7, X', e', fun target h => st target ?_⟩
    rw [hi'] at h ⊢
    have hd : ls.drop ls.length = [] := List.drop_length
    rw [hd] at h
    exact h
  | succ k ih =>
    intro i q s7 T0 hi hq h7 X0 e0
    have hil : i < ls.length := by omega
    have hin : ¬ (Int32.ofNat i < 0 ∨ cw.slots.size ≤ (Int32.ofNat i).toNatClampNeg) := inb_of Sw ⟨own_nn (by omega), own_lt hil hn⟩
    have hat : cw.slots[(Int32.ofNat i).toNatClampNeg]? = some (.int ls[i]) := Has.at Hw hin (by rw [own_n32 (by omega)]; exact own_get ls i hil)
    have ha := hls ls[i] (List.getElem_mem hil)
    obtain ⟨r1, r2, r3⟩ := own_at t q ls[i] hq ha
    have hin2 : ¬ (((q * (3 : Int32)) + ls[i]) < 0 ∨ cn.slots.size ≤ ((q * (3 : Int32)) + ls[i]).toNatClampNeg) := inb_of Sn ⟨r1, r2⟩
    have hat2 : cn.slots[((q * (3 : Int32)) + ls[i]).toNatClampNeg]? = some (.int (own_delta t q ls[i])) := Has.at Hn hin2 r3
    obtain ⟨T1, X1, e1, st1⟩ := tn5_13_13 o0 s1 s2 q o4 (Int32.ofNat ls.length) (Int32.ofNat i) s7 ls[i] cw an (3 : Int32) (own_delta t q ls[i]) cn X0 hx hZ hw hby hml hown e0 Aw hin hat h7 Fn Fl An hin2 hat2 (own_lt hil hn)
    obtain ⟨T', s7', X', e', st⟩ := ih (i + 1) (own_delta t q ls[i]) (.val (.int ls[i])) T1 (by omega) (own_and3 _) (One.val rfl) X1 e1
    refine ⟨T', s7', X', e', fun target h => st1 target ?_⟩
    rw [own_one]
    refine st target ?_
    rw [← own_drop t q ls i hil]
    exact h
def Q5 (Z : State) (t : Int32) (q : Int32) (ls : List Int32) (h0 : Heap) (n0 : Nat) (v : Option Value) (h : Heap) (L : List Loc) : Prop := v = some (.int (own_fold t q ls)) ∧ Fr n0 L ∧ h = h0
set_option maxRecDepth 65536 in
set_option maxHeartbeats 40000000 in
theorem rm5 (l : Launch) (Z : State) (a0 : Array Value) (hw : ∀ d ∈ tables_1, d.before a0 Z = true) (ws : List Jvm.Cond) (a1 : Addr) (p2 : Int32) (a3 : Addr) (an : Addr) (kw kn : ClassId) (t : Int32) (ls : List Int32) (h0 : Heap) (n0 : Nat) (Z0 : n0 ≤ h0.size) (hn : ls.length ≤ 255) (hls : ∀ x ∈ ls, 0 ≤ x.toInt ∧ x.toInt ≤ 2) (hq : 0 ≤ p2.toInt ∧ p2.toInt ≤ 3) (Vw : Arv Z h0 a3 kw .int (Int32.ofNat ls.length) (ls.map Value.int) (.int 0)) (Vn : Arv Z h0 an kn .int (12 : Int32) (own_edges t) (.int 0)) (Fn : Fld Z h0 a1 "com/example/libpiecewise/libpiecewise/Dfa" "next" "[I" (.ref an)) (Fl : Fld Z h0 a1 "com/example/libpiecewise/libpiecewise/Dfa" "letterCount" "I" (.int (3 : Int32))) :
    MetFree l (⟨"com/example/libpiecewise/libpiecewise/Dfa", "run", "(I[I)I"⟩ : MethodName) (head1 (Jvm.Cond.code (⟨"com/example/libpiecewise/libpiecewise/Dfa", "run", "(I[I)I"⟩ : MethodName) prog_12_method_8_code 8 (some .int) :: ws) ({ frames := 0, cells := 0, slots := 0, locals := 0 } : Room)) (fun a U => a = #[(.ref a1), (.int p2), (.ref a3)] ∧ Z.Warmed39 U.vm ∧ U.heap = h0) (fun _ _ _ _ _ => True) (fun _ U o U' => ∃ v L, o = .returned v ∧ Q5 Z t p2 ls h0 n0 v U'.heap L ∧ FrameEnd U o U' L ({ frames := 0, cells := 0, slots := 0, locals := 0 } : Room).cells ({ frames := 0, cells := 0, slots := 0, locals := 0 } : Room).slots) := by
  refine MetFree.of_bodySF (plainFor_of_name pn_5) hisR ?_
  intro p e s m args below meth c s₁ Bd hml0 hP hK
  obtain ⟨rfl, hZ, hh⟩ := hP
  have hx := Bd.exec
  have hby := Bd.bytes
  have hml : c.maxLocals = 8 := hml0
  have hown : s.vm.findClass "com/example/libpiecewise/libpiecewise/Dfa" = some m.cls := findClass_of_methodNamed Bd.named
  have hnm := (name_of_methodNamed Bd.named Bd.method).1
  have X0 : Stand p l e ({ frames := 0, cells := 0, slots := 0, locals := 0 } : Room) s m #[(.ref a1), (.int p2), (.ref a3)] below meth c s₁ [] 0 0 := Stand.of_body Bd
  have e0 : s₁.heap = h0 := by rw [← hh, Bd.state]; rfl
  have N0 := Fr.nil n0
  have pre0 : ∀ t, Steps p.tables e below (s₁.setTop (mkF m 0 #[.val (.ref a1), .val (.int p2), .val (.ref a3), .unset, .unset, .unset, .unset, .unset] [])) t → Steps p.tables e below (s₁.setTop (entryFrame m #[(.ref a1), (.int p2), (.ref a3)] 8)) t := fun t k => castTop (ef_5 m a1 p2 a3) k
  obtain ⟨cl_a3, Ar_a3, -, S_a3, N_a3, H_a3, -⟩ := Vw
  obtain ⟨cl_an, Ar_an, -, S_an, -, H_an, -⟩ := Vn
  obtain ⟨TL, s7', XL, eL, stL⟩ := loop5 a1 (.val (.int p2)) (.val (.ref a3)) a3 an t ls hn hls hx hZ hw hby hml hown cl_a3 cl_an Ar_a3 S_a3 H_a3 Ar_an S_an H_an Fn Fl ls.length 0 p2 .unset s₁ (Nat.zero_add _) hq One.u X0 e0

  obtain ⟨fs, hr, hrun, hended, hW, hsame⟩ := XL.leave (v := some (.int (own_fold t p2 ls))) (fun h => by rw [Bd.returns] at h; cases h)
  refine ⟨_, _, pre0 _ ?_, hrun, hended, _, _, rfl, ?_, ⟨_, rfl⟩, hW, hsame.mono (by decide) (by decide)⟩
  · show Steps p.tables e below (s₁.setTop (mkF m 0 #[.val (.ref a1), .val (.int p2), .val (.ref a3), .unset, .unset, .unset, .unset, .unset] [])) _
    refine XS.iloadN X0.here hx rfl (hb hby d5_0) rfl ?_
    show Steps p.tables e below (s₁.setTop (mkF m 1 #[.val (.ref a1), .val (.int p2), .val (.ref a3), .unset, .unset, .unset, .unset, .unset] [(.int p2)])) _
    refine XS.istoreN X0.here hx rfl (hb hby d5_1) rfl (l' := #[.val (.ref a1), .val (.int p2), .val (.ref a3), .val (.int p2), .unset, .unset, .unset, .unset]) rfl ?_
    show Steps p.tables e below (s₁.setTop (mkF m 2 #[.val (.ref a1), .val (.int p2), .val (.ref a3), .val (.int p2), .unset, .unset, .unset, .unset] [])) _
    refine XS.aloadN X0.here hx rfl (hb hby d5_2) rfl rfl ?_
    show Steps p.tables e below (s₁.setTop (mkF m 3 #[.val (.ref a1), .val (.int p2), .val (.ref a3), .val (.int p2), .unset, .unset, .unset, .unset] [(.ref a3)])) _
    refine XS.astore X0.here hx rfl (hb hby d5_3) rfl rfl (l' := #[.val (.ref a1), .val (.int p2), .val (.ref a3), .val (.int p2), .val (.ref a3), .unset, .unset, .unset]) rfl ?_
    show Steps p.tables e below (s₁.setTop (mkF m 5 #[.val (.ref a1), .val (.int p2), .val (.ref a3), .val (.int p2), .val (.ref a3), .unset, .unset, .unset] [])) _
    refine XS.aload X0.here hx rfl (hb hby d5_5) rfl rfl ?_
    show Steps p.tables e below (s₁.setTop (mkF m 7 #[.val (.ref a1), .val (.int p2), .val (.ref a3), .val (.int p2), .val (.ref a3), .unset, .unset, .unset] [(.ref a3)])) _
    refine X0.arraylength hx (by rw [e0]; exact Ar_a3.1) (State.isArrayOf_alike hZ.alike Ar_a3.2.1) (g := (mkF m 7 #[.val (.ref a1), .val (.int p2), .val (.ref a3), .val (.int p2), .val (.ref a3), .unset, .unset, .unset] [(.ref a3)])) rfl rfl (hb hby d5_7) _ ?_
    rw [len_of S_a3 N_a3]
    show Steps p.tables e below (s₁.setTop (mkF m 8 #[.val (.ref a1), .val (.int p2), .val (.ref a3), .val (.int p2), .val (.ref a3), .unset, .unset, .unset] [(.int (Int32.ofNat ls.length))])) _
    refine XS.istore X0.here hx rfl (hb hby d5_8) rfl (l' := #[.val (.ref a1), .val (.int p2), .val (.ref a3), .val (.int p2), .val (.ref a3), .val (.int (Int32.ofNat ls.length)), .unset, .unset]) rfl ?_
    show Steps p.tables e below (s₁.setTop (mkF m 10 #[.val (.ref a1), .val (.int p2), .val (.ref a3), .val (.int p2), .val (.ref a3), .val (.int (Int32.ofNat ls.length)), .unset, .unset] [])) _
    refine XS.iconst X0.here hx rfl (hb hby d5_10) ?_
    show Steps p.tables e below (s₁.setTop (mkF m 11 #[.val (.ref a1), .val (.int p2), .val (.ref a3), .val (.int p2), .val (.ref a3), .val (.int (Int32.ofNat ls.length)), .unset, .unset] [(.int (0 : Int32))])) _
    refine XS.istore X0.here hx rfl (hb hby d5_11) rfl (l' := #[.val (.ref a1), .val (.int p2), .val (.ref a3), .val (.int p2), .val (.ref a3), .val (.int (Int32.ofNat ls.length)), .val (.int (0 : Int32)), .unset]) rfl ?_
    show Steps p.tables e below (s₁.setTop (mkF m 13 #[.val (.ref a1), .val (.int p2), .val (.ref a3), .val (.int p2), .val (.ref a3), .val (.int (Int32.ofNat ls.length)), .val (.int (0 : Int32)), .unset] [])) _
    refine stL _ ?_
    show Steps p.tables e below (TL.setTop (mkF m 48 #[.val (.ref a1), .val (.int p2), .val (.ref a3), .val (.int (own_fold t p2 ls)), .val (.ref a3), .val (.int (Int32.ofNat ls.length)), .val (.int (Int32.ofNat ls.length)), s7'] [])) _
    refine XS.iloadN XL.here hx rfl (hb hby d5_48) rfl ?_
    show Steps p.tables e below (TL.setTop (mkF m 49 #[.val (.ref a1), .val (.int p2), .val (.ref a3), .val (.int (own_fold t p2 ls)), .val (.ref a3), .val (.int (Int32.ofNat ls.length)), .val (.int (Int32.ofNat ls.length)), s7'] [(.int (own_fold t p2 ls))])) _
    exact retI XL hx Bd.returns (hb hby d5_49) hr
  · show Q5 Z t p2 ls h0 n0 _ TL.heap _
    rw [eL]
    exact ⟨rfl, N0, rfl⟩

set_option maxRecDepth 65536 in
set_option maxHeartbeats 40000000 in
theorem tn0_0_5 {p : Program} {l : Launch} {e : Env} {s : State} {m : MethodId} {args : Array Value} {below : List Frame} {meth : Method} {c : Code} {T0 : State} {locs : List Loc} {Z : State} {a0 : Array Value} {h0 : Heap} (s0 : Slot) (s1 : Slot) (s2 : Slot) (s3 : Slot) (s4 : Slot) (s5 : Slot) (s6 : Slot) (s7 : Slot) (s8 : Slot) (s9 : Slot) (s10 : Slot) (s11 : Slot) (s12 : Slot) (s13 : Slot) (s14 : Slot) (s15 : Slot) (s16 : Slot) (n0 : Nat)
    (X0 : Stand p l e room_1 s m args below meth c T0 locs 0 0) (hx : p.tables.exec = Jvm.exec) (hZ : Z.Warmed39 s.vm) (hw : ∀ d ∈ tables_1, d.before a0 Z = true) (hby : c.code = code) (hml : c.maxLocals = 17) (hown : s.vm.findClass "com/example/libpiecewise/libpiecewise/DfaRunPinLaw" = some m.cls) (e0 : T0.heap = h0) (Z0 : n0 ≤ h0.size) (hs3 : One s3) :
    ∃ (T' : State) (h' : Heap) (b4 : Addr), Stand p l e room_1 s m args below meth c T' locs 1 12 ∧ T'.heap = h' ∧ Ext h0 h' ∧ b4 = h0.size ∧ own_arr Z h' b4 12 (fun _ => 0) ∧
      ∀ target, Steps p.tables e below (T'.setTop (mkF m 5 #[s0, s1, s2, .val (.ref b4), s4, s5, s6, s7, s8, s9, s10, s11, s12, s13, s14, s15, s16] [])) target → Steps p.tables e below (T0.setTop (mkF m 0 #[s0, s1, s2, s3, s4, s5, s6, s7, s8, s9, s10, s11, s12, s13, s14, s15, s16] [])) target := by
  obtain ⟨T4, h4, k4, X4, e4, E4, A4, st4⟩ := newP X0 hx hZ (hw _ (List.mem_of_getElem? (i := 0) rfl)) e0 (g := (mkF m 2 #[s0, s1, s2, s3, s4, s5, s6, s7, s8, s9, s10, s11, s12, s13, s14, s15, s16] [(.int (12 : Int32))])) rfl (hb hby at_2) rfl (by decide) (cap := 12) (by decide) (by decide) (by decide) (by decide)
  obtain ⟨b4, g4⟩ : ∃ z, z = h0.size := ⟨_, rfl⟩      -- the fresh array's address
  rw [← g4] at A4 st4
  have g_b4 : n0 ≤ b4 := Nat.le_trans Z0 (Nat.le_of_eq g4.symm)
  have sz_b4 : h0.size ≤ b4 := (Nat.le_trans (Keep.refl h0 []).1 (Nat.le_of_eq g4.symm))
  have K4 : Keep h0 h4 [] := (Keep.refl h0 []).ext E4
  refine ⟨T4, _, b4, X4, e4, E4, g4, own_arr.new (n := 12) A4 (by decide), fun target kt => ?_⟩
  show Steps p.tables e below (T0.setTop (mkF m 0 #[s0, s1, s2, s3, s4, s5, s6, s7, s8, s9, s10, s11, s12, s13, s14, s15, s16] [])) _
  refine XS.bipush X0.here hx rfl (hb hby at_0) ?_
  show Steps p.tables e below (T0.setTop (mkF m 2 #[s0, s1, s2, s3, s4, s5, s6, s7, s8, s9, s10, s11, s12, s13, s14, s15, s16] [(.int (12 : Int32))])) _
  refine st4 _ ?_
  show Steps p.tables e below (T4.setTop (mkF m 4 #[s0, s1, s2, s3, s4, s5, s6, s7, s8, s9, s10, s11, s12, s13, s14, s15, s16] [(.ref b4)])) _
  refine XS.astoreN X4.here hx rfl (hb hby at_4) rfl rfl (l' := #[s0, s1, s2, .val (.ref b4), s4, s5, s6, s7, s8, s9, s10, s11, s12, s13, s14, s15, s16]) (os0_4 hs3) ?_
  exact kt

set_option maxRecDepth 65536 in
set_option maxHeartbeats 40000000 in
theorem tA_0 {p : Program} {l : Launch} {e : Env} {s : State} {m : MethodId} {args : Array Value} {below : List Frame} {meth : Method} {c : Code} {T0 : State} {locs : List Loc} {Z : State} {a0 : Array Value} {h0 : Heap} (i0 : Int32) (s1 : Slot) (s2 : Slot) (o3 : Addr) (s4 : Slot) (s5 : Slot) (s6 : Slot) (s7 : Slot) (s8 : Slot) (s9 : Slot) (s10 : Slot) (s11 : Slot) (s12 : Slot) (s13 : Slot) (s14 : Slot) (s15 : Slot) (s16 : Slot) (cl_o3 : Cell) (n0 : Nat)
    (X0 : Stand p l e room_1 s m args below meth c T0 locs 1 12) (hx : p.tables.exec = Jvm.exec) (hZ : Z.Warmed39 s.vm) (hw : ∀ d ∈ tables_1, d.before a0 Z = true) (hby : c.code = code) (hml : c.maxLocals = 17) (hown : s.vm.findClass "com/example/libpiecewise/libpiecewise/DfaRunPinLaw" = some m.cls) (e0 : T0.heap = h0) (Z0 : n0 ≤ h0.size) (N0 : Fr n0 locs) (Ar_o3 : Arr Z h0 o3 cl_o3 .int) (hin12 : ¬ ((0 : Int32) < 0 ∨ cl_o3.slots.size ≤ ((0 : Int32)).toNatClampNeg)) (g_o3 : n0 ≤ o3) :
    ∃ (T' : State) (h' : Heap) (locs' : List Loc), Stand p l e room_1 s m args below meth c T' locs' 1 12 ∧ T'.heap = h' ∧ Fr n0 locs' ∧ Wr h0 h' o3 ((0 : Int32)).toNatClampNeg (.int (own_edge i0 (0 : Int32))) ∧
      ∀ target, Steps p.tables e below (T'.setTop (mkF m 13 #[.val (.int i0), s1, s2, .val (.ref o3), s4, s5, s6, s7, s8, s9, s10, s11, s12, s13, s14, s15, s16] [])) target → Steps p.tables e below (T0.setTop (mkF m 5 #[.val (.int i0), s1, s2, .val (.ref o3), s4, s5, s6, s7, s8, s9, s10, s11, s12, s13, s14, s15, s16] [])) target := by
  obtain ⟨_, _, ⟨T4, L4, k4, n4⟩, -, X4, ⟨Lc4, hQ4, l4, y4, z4⟩, st4⟩ := Jvm.LawKit.callS X0 hx (y := (⟨"com/example/libpiecewise/libpiecewise/DfaRunPinLaw", "edge", "(II)I"⟩ : MethodName)) hown (mvT hZ (hw _ (List.mem_of_getElem? (i := 1) rfl))) (mvT hZ (hw _ (List.mem_of_getElem? (i := 2) rfl))) (mvT hZ (hw _ (List.mem_of_getElem? (i := 3) rfl))) (mvT hZ (hw _ (List.mem_of_getElem? (i := 4) rfl))) (by decide) (backOf (W := 2) (rm1 l Z a0 hw [] i0 (0 : Int32)  h0 n0 Z0) hZ (hw _ (List.mem_of_getElem? (i := 4) rfl)) (hw _ (List.mem_of_getElem? (i := 3) rfl)) (by decide) (by decide)) (g := (mkF m 9 #[.val (.int i0), s1, s2, .val (.ref o3), s4, s5, s6, s7, s8, s9, s10, s11, s12, s13, s14, s15, s16] [(.int (0 : Int32)), (.int i0), (.int (0 : Int32)), (.ref o3)])) rfl (by rw [hml]; rfl) (argsL := [(.int i0), (.int (0 : Int32))]) (rest := [(.int (0 : Int32)), (.ref o3)]) (lenOf pd_0_0 rfl) rfl (by show 2 * 0 + _ ≤ _; exact Nat.le_of_eq rfl) (hb hby at_9) (fun _ _ => ⟨rfl, e0, (by decide : 1 + 0 ≤ _), (by decide : 12 + 0 ≤ _)⟩)
  dsimp only [Pt.U, Pt.locs, Pt.cells, Pt.slots] at X4 l4 y4 z4 st4 hQ4
  subst l4 y4 z4
  obtain ⟨rfl, N4q, e4⟩ := hQ4      -- what it returned, that it wrote nothing old, and the rest of your Q1
  have N4 := Fr.app N0 N4q
  obtain ⟨T5, h5, X5, e5, W5, st5⟩ := stI X4 hx hZ e4 Ar_o3 (j := (0 : Int32)) hin12 (g := (mkF m 12 #[.val (.int i0), s1, s2, .val (.ref o3), s4, s5, s6, s7, s8, s9, s10, s11, s12, s13, s14, s15, s16] [(.int (own_edge i0 (0 : Int32))), (.int (0 : Int32)), (.ref o3)])) rfl rfl (hb hby at_12)
  have N5 := Fr.snoc X5 N4 g_o3
  refine ⟨T5, _, _, X5, e5, N5, W5, fun target kt => ?_⟩
  show Steps p.tables e below (T0.setTop (mkF m 5 #[.val (.int i0), s1, s2, .val (.ref o3), s4, s5, s6, s7, s8, s9, s10, s11, s12, s13, s14, s15, s16] [])) _
  refine XS.aloadN X0.here hx rfl (hb hby at_5) rfl rfl ?_
  show Steps p.tables e below (T0.setTop (mkF m 6 #[.val (.int i0), s1, s2, .val (.ref o3), s4, s5, s6, s7, s8, s9, s10, s11, s12, s13, s14, s15, s16] [(.ref o3)])) _
  refine XS.iconst X0.here hx rfl (hb hby at_6) ?_
  show Steps p.tables e below (T0.setTop (mkF m 7 #[.val (.int i0), s1, s2, .val (.ref o3), s4, s5, s6, s7, s8, s9, s10, s11, s12, s13, s14, s15, s16] [(.int (0 : Int32)), (.ref o3)])) _
  refine XS.iloadN X0.here hx rfl (hb hby at_7) rfl ?_
  show Steps p.tables e below (T0.setTop (mkF m 8 #[.val (.int i0), s1, s2, .val (.ref o3), s4, s5, s6, s7, s8, s9, s10, s11, s12, s13, s14, s15, s16] [(.int i0), (.int (0 : Int32)), (.ref o3)])) _
  refine XS.iconst X0.here hx rfl (hb hby at_8) ?_
  show Steps p.tables e below (T0.setTop (mkF m 9 #[.val (.int i0), s1, s2, .val (.ref o3), s4, s5, s6, s7, s8, s9, s10, s11, s12, s13, s14, s15, s16] [(.int (0 : Int32)), (.int i0), (.int (0 : Int32)), (.ref o3)])) _
  refine st4 _ ?_
  show Steps p.tables e below (T4.setTop (mkF m 12 #[.val (.int i0), s1, s2, .val (.ref o3), s4, s5, s6, s7, s8, s9, s10, s11, s12, s13, s14, s15, s16] [(.int (own_edge i0 (0 : Int32))), (.int (0 : Int32)), (.ref o3)])) _
  refine st5 _ ?_
  exact kt

theorem fill_0 {p : Program} {l : Launch} {e : Env} {s : State} {m : MethodId} {args : Array Value} {below : List Frame} {meth : Method} {c : Code} {T0 : State} {locs : List Loc} {Z : State} {a0 : Array Value} {h0 : Heap} (t : Int32) (ta : Addr) (s1 s2 s4 s5 s6 s7 s8 s9 s10 s11 s12 s13 s14 s15 s16 : Slot) (n0 : Nat) (H0 : Heap)
    (X0 : Stand p l e room_1 s m args below meth c T0 locs 1 12) (hx : p.tables.exec = Jvm.exec) (hZ : Z.Warmed39 s.vm) (hw : ∀ d ∈ tables_1, d.before a0 Z = true) (hby : c.code = code) (hml : c.maxLocals = 17) (hown : s.vm.findClass "com/example/libpiecewise/libpiecewise/DfaRunPinLaw" = some m.cls) (e0 : T0.heap = h0) (Z0 : n0 ≤ h0.size) (N0 : Fr n0 locs) (gta : n0 ≤ ta) (hta : H0.size ≤ ta) (K0 : Keep H0 h0 []) (V : own_arr Z h0 ta 12 (fun j => if j < 0 then own_edge t (Int32.ofNat j) else 0)) :
    ∃ (T' : State) (h' : Heap) (locs' : List Loc), Stand p l e room_1 s m args below meth c T' locs' 1 12 ∧ T'.heap = h' ∧ Fr n0 locs' ∧ n0 ≤ h'.size ∧ Keep H0 h' [] ∧ own_arr Z h' ta 12 (fun j => if j < 1 then own_edge t (Int32.ofNat j) else 0) ∧
      ∀ target, Steps p.tables e below (T'.setTop (mkF m 13 #[.val (.int t), s1, s2, .val (.ref ta), s4, s5, s6, s7, s8, s9, s10, s11, s12, s13, s14, s15, s16] [])) target → Steps p.tables e below (T0.setTop (mkF m 5 #[.val (.int t), s1, s2, .val (.ref ta), s4, s5, s6, s7, s8, s9, s10, s11, s12, s13, s14, s15, s16] [])) target := by
  have V' := V
  obtain ⟨cl, Ar, S, H⟩ := V'
  obtain ⟨T', h', L', X', e', N', W', st⟩ := tA_0 t s1 s2 ta s4 s5 s6 s7 s8 s9 s10 s11 s12 s13 s14 s15 s16 cl n0 X0 hx hZ hw hby hml hown e0 Z0 N0 Ar (own_in (j := 0) S (by decide) (by decide)) gta
  refine ⟨T', h', L', X', e', N', by rw [W'.size]; exact Z0, K0.wr W' (Or.inr hta), ?_, st⟩
  refine (own_arr.set (j := 0) Ar S H W' (by decide) (by decide)).congr fun j hj => ?_
  by_cases e : j = 0
  · subst e
    rw [if_pos rfl, if_pos (by omega)]; rfl
  · rw [if_neg e]
    by_cases e2 : j < 0
    · rw [if_pos e2, if_pos (by omega)]
    · rw [if_neg e2, if_neg (by omega)]
set_option maxRecDepth 65536 in
set_option maxHeartbeats 40000000 in
theorem tA_1 {p : Program} {l : Launch} {e : Env} {s : State} {m : MethodId} {args : Array Value} {below : List Frame} {meth : Method} {c : Code} {T0 : State} {locs : List Loc} {Z : State} {a0 : Array Value} {h0 : Heap} (i0 : Int32) (s1 : Slot) (s2 : Slot) (o3 : Addr) (s4 : Slot) (s5 : Slot) (s6 : Slot) (s7 : Slot) (s8 : Slot) (s9 : Slot) (s10 : Slot) (s11 : Slot) (s12 : Slot) (s13 : Slot) (s14 : Slot) (s15 : Slot) (s16 : Slot) (cl_o3 : Cell) (n0 : Nat)
    (X0 : Stand p l e room_1 s m args below meth c T0 locs 1 12) (hx : p.tables.exec = Jvm.exec) (hZ : Z.Warmed39 s.vm) (hw : ∀ d ∈ tables_1, d.before a0 Z = true) (hby : c.code = code) (hml : c.maxLocals = 17) (hown : s.vm.findClass "com/example/libpiecewise/libpiecewise/DfaRunPinLaw" = some m.cls) (e0 : T0.heap = h0) (Z0 : n0 ≤ h0.size) (N0 : Fr n0 locs) (Ar_o3 : Arr Z h0 o3 cl_o3 .int) (hin20 : ¬ ((1 : Int32) < 0 ∨ cl_o3.slots.size ≤ ((1 : Int32)).toNatClampNeg)) (g_o3 : n0 ≤ o3) :
    ∃ (T' : State) (h' : Heap) (locs' : List Loc), Stand p l e room_1 s m args below meth c T' locs' 1 12 ∧ T'.heap = h' ∧ Fr n0 locs' ∧ Wr h0 h' o3 ((1 : Int32)).toNatClampNeg (.int (own_edge i0 (1 : Int32))) ∧
      ∀ target, Steps p.tables e below (T'.setTop (mkF m 21 #[.val (.int i0), s1, s2, .val (.ref o3), s4, s5, s6, s7, s8, s9, s10, s11, s12, s13, s14, s15, s16] [])) target → Steps p.tables e below (T0.setTop (mkF m 13 #[.val (.int i0), s1, s2, .val (.ref o3), s4, s5, s6, s7, s8, s9, s10, s11, s12, s13, s14, s15, s16] [])) target := by
  obtain ⟨_, _, ⟨T4, L4, k4, n4⟩, -, X4, ⟨Lc4, hQ4, l4, y4, z4⟩, st4⟩ := Jvm.LawKit.callS X0 hx (y := (⟨"com/example/libpiecewise/libpiecewise/DfaRunPinLaw", "edge", "(II)I"⟩ : MethodName)) hown (mvT hZ (hw _ (List.mem_of_getElem? (i := 1) rfl))) (mvT hZ (hw _ (List.mem_of_getElem? (i := 2) rfl))) (mvT hZ (hw _ (List.mem_of_getElem? (i := 3) rfl))) (mvT hZ (hw _ (List.mem_of_getElem? (i := 4) rfl))) (by decide) (backOf (W := 2) (rm1 l Z a0 hw [] i0 (1 : Int32)  h0 n0 Z0) hZ (hw _ (List.mem_of_getElem? (i := 4) rfl)) (hw _ (List.mem_of_getElem? (i := 3) rfl)) (by decide) (by decide)) (g := (mkF m 17 #[.val (.int i0), s1, s2, .val (.ref o3), s4, s5, s6, s7, s8, s9, s10, s11, s12, s13, s14, s15, s16] [(.int (1 : Int32)), (.int i0), (.int (1 : Int32)), (.ref o3)])) rfl (by rw [hml]; rfl) (argsL := [(.int i0), (.int (1 : Int32))]) (rest := [(.int (1 : Int32)), (.ref o3)]) (lenOf pd_0_0 rfl) rfl (by show 2 * 0 + _ ≤ _; exact Nat.le_of_eq rfl) (hb hby at_17) (fun _ _ => ⟨rfl, e0, (by decide : 1 + 0 ≤ _), (by decide : 12 + 0 ≤ _)⟩)
  dsimp only [Pt.U, Pt.locs, Pt.cells, Pt.slots] at X4 l4 y4 z4 st4 hQ4
  subst l4 y4 z4
  obtain ⟨rfl, N4q, e4⟩ := hQ4      -- what it returned, that it wrote nothing old, and the rest of your Q1
  have N4 := Fr.app N0 N4q
  obtain ⟨T5, h5, X5, e5, W5, st5⟩ := stI X4 hx hZ e4 Ar_o3 (j := (1 : Int32)) hin20 (g := (mkF m 20 #[.val (.int i0), s1, s2, .val (.ref o3), s4, s5, s6, s7, s8, s9, s10, s11, s12, s13, s14, s15, s16] [(.int (own_edge i0 (1 : Int32))), (.int (1 : Int32)), (.ref o3)])) rfl rfl (hb hby at_20)
  have N5 := Fr.snoc X5 N4 g_o3
  refine ⟨T5, _, _, X5, e5, N5, W5, fun target kt => ?_⟩
  show Steps p.tables e below (T0.setTop (mkF m 13 #[.val (.int i0), s1, s2, .val (.ref o3), s4, s5, s6, s7, s8, s9, s10, s11, s12, s13, s14, s15, s16] [])) _
  refine XS.aloadN X0.here hx rfl (hb hby at_13) rfl rfl ?_
  show Steps p.tables e below (T0.setTop (mkF m 14 #[.val (.int i0), s1, s2, .val (.ref o3), s4, s5, s6, s7, s8, s9, s10, s11, s12, s13, s14, s15, s16] [(.ref o3)])) _
  refine XS.iconst X0.here hx rfl (hb hby at_14) ?_
  show Steps p.tables e below (T0.setTop (mkF m 15 #[.val (.int i0), s1, s2, .val (.ref o3), s4, s5, s6, s7, s8, s9, s10, s11, s12, s13, s14, s15, s16] [(.int (1 : Int32)), (.ref o3)])) _
  refine XS.iloadN X0.here hx rfl (hb hby at_15) rfl ?_
  show Steps p.tables e below (T0.setTop (mkF m 16 #[.val (.int i0), s1, s2, .val (.ref o3), s4, s5, s6, s7, s8, s9, s10, s11, s12, s13, s14, s15, s16] [(.int i0), (.int (1 : Int32)), (.ref o3)])) _
  refine XS.iconst X0.here hx rfl (hb hby at_16) ?_
  show Steps p.tables e below (T0.setTop (mkF m 17 #[.val (.int i0), s1, s2, .val (.ref o3), s4, s5, s6, s7, s8, s9, s10, s11, s12, s13, s14, s15, s16] [(.int (1 : Int32)), (.int i0), (.int (1 : Int32)), (.ref o3)])) _
  refine st4 _ ?_
  show Steps p.tables e below (T4.setTop (mkF m 20 #[.val (.int i0), s1, s2, .val (.ref o3), s4, s5, s6, s7, s8, s9, s10, s11, s12, s13, s14, s15, s16] [(.int (own_edge i0 (1 : Int32))), (.int (1 : Int32)), (.ref o3)])) _
  refine st5 _ ?_
  exact kt

theorem fill_1 {p : Program} {l : Launch} {e : Env} {s : State} {m : MethodId} {args : Array Value} {below : List Frame} {meth : Method} {c : Code} {T0 : State} {locs : List Loc} {Z : State} {a0 : Array Value} {h0 : Heap} (t : Int32) (ta : Addr) (s1 s2 s4 s5 s6 s7 s8 s9 s10 s11 s12 s13 s14 s15 s16 : Slot) (n0 : Nat) (H0 : Heap)
    (X0 : Stand p l e room_1 s m args below meth c T0 locs 1 12) (hx : p.tables.exec = Jvm.exec) (hZ : Z.Warmed39 s.vm) (hw : ∀ d ∈ tables_1, d.before a0 Z = true) (hby : c.code = code) (hml : c.maxLocals = 17) (hown : s.vm.findClass "com/example/libpiecewise/libpiecewise/DfaRunPinLaw" = some m.cls) (e0 : T0.heap = h0) (Z0 : n0 ≤ h0.size) (N0 : Fr n0 locs) (gta : n0 ≤ ta) (hta : H0.size ≤ ta) (K0 : Keep H0 h0 []) (V : own_arr Z h0 ta 12 (fun j => if j < 1 then own_edge t (Int32.ofNat j) else 0)) :
    ∃ (T' : State) (h' : Heap) (locs' : List Loc), Stand p l e room_1 s m args below meth c T' locs' 1 12 ∧ T'.heap = h' ∧ Fr n0 locs' ∧ n0 ≤ h'.size ∧ Keep H0 h' [] ∧ own_arr Z h' ta 12 (fun j => if j < 2 then own_edge t (Int32.ofNat j) else 0) ∧
      ∀ target, Steps p.tables e below (T'.setTop (mkF m 21 #[.val (.int t), s1, s2, .val (.ref ta), s4, s5, s6, s7, s8, s9, s10, s11, s12, s13, s14, s15, s16] [])) target → Steps p.tables e below (T0.setTop (mkF m 13 #[.val (.int t), s1, s2, .val (.ref ta), s4, s5, s6, s7, s8, s9, s10, s11, s12, s13, s14, s15, s16] [])) target := by
  have V' := V
  obtain ⟨cl, Ar, S, H⟩ := V'
  obtain ⟨T', h', L', X', e', N', W', st⟩ := tA_1 t s1 s2 ta s4 s5 s6 s7 s8 s9 s10 s11 s12 s13 s14 s15 s16 cl n0 X0 hx hZ hw hby hml hown e0 Z0 N0 Ar (own_in (j := 1) S (by decide) (by decide)) gta
  refine ⟨T', h', L', X', e', N', by rw [W'.size]; exact Z0, K0.wr W' (Or.inr hta), ?_, st⟩
  refine (own_arr.set (j := 1) Ar S H W' (by decide) (by decide)).congr fun j hj => ?_
  by_cases e : j = 1
  · subst e
    rw [if_pos rfl, if_pos (by omega)]; rfl
  · rw [if_neg e]
    by_cases e2 : j < 1
    · rw [if_pos e2, if_pos (by omega)]
    · rw [if_neg e2, if_neg (by omega)]
set_option maxRecDepth 65536 in
set_option maxHeartbeats 40000000 in
theorem tA_2 {p : Program} {l : Launch} {e : Env} {s : State} {m : MethodId} {args : Array Value} {below : List Frame} {meth : Method} {c : Code} {T0 : State} {locs : List Loc} {Z : State} {a0 : Array Value} {h0 : Heap} (i0 : Int32) (s1 : Slot) (s2 : Slot) (o3 : Addr) (s4 : Slot) (s5 : Slot) (s6 : Slot) (s7 : Slot) (s8 : Slot) (s9 : Slot) (s10 : Slot) (s11 : Slot) (s12 : Slot) (s13 : Slot) (s14 : Slot) (s15 : Slot) (s16 : Slot) (cl_o3 : Cell) (n0 : Nat)
    (X0 : Stand p l e room_1 s m args below meth c T0 locs 1 12) (hx : p.tables.exec = Jvm.exec) (hZ : Z.Warmed39 s.vm) (hw : ∀ d ∈ tables_1, d.before a0 Z = true) (hby : c.code = code) (hml : c.maxLocals = 17) (hown : s.vm.findClass "com/example/libpiecewise/libpiecewise/DfaRunPinLaw" = some m.cls) (e0 : T0.heap = h0) (Z0 : n0 ≤ h0.size) (N0 : Fr n0 locs) (Ar_o3 : Arr Z h0 o3 cl_o3 .int) (hin28 : ¬ ((2 : Int32) < 0 ∨ cl_o3.slots.size ≤ ((2 : Int32)).toNatClampNeg)) (g_o3 : n0 ≤ o3) :
    ∃ (T' : State) (h' : Heap) (locs' : List Loc), Stand p l e room_1 s m args below meth c T' locs' 1 12 ∧ T'.heap = h' ∧ Fr n0 locs' ∧ Wr h0 h' o3 ((2 : Int32)).toNatClampNeg (.int (own_edge i0 (2 : Int32))) ∧
      ∀ target, Steps p.tables e below (T'.setTop (mkF m 29 #[.val (.int i0), s1, s2, .val (.ref o3), s4, s5, s6, s7, s8, s9, s10, s11, s12, s13, s14, s15, s16] [])) target → Steps p.tables e below (T0.setTop (mkF m 21 #[.val (.int i0), s1, s2, .val (.ref o3), s4, s5, s6, s7, s8, s9, s10, s11, s12, s13, s14, s15, s16] [])) target := by
  obtain ⟨_, _, ⟨T4, L4, k4, n4⟩, -, X4, ⟨Lc4, hQ4, l4, y4, z4⟩, st4⟩ := Jvm.LawKit.callS X0 hx (y := (⟨"com/example/libpiecewise/libpiecewise/DfaRunPinLaw", "edge", "(II)I"⟩ : MethodName)) hown (mvT hZ (hw _ (List.mem_of_getElem? (i := 1) rfl))) (mvT hZ (hw _ (List.mem_of_getElem? (i := 2) rfl))) (mvT hZ (hw _ (List.mem_of_getElem? (i := 3) rfl))) (mvT hZ (hw _ (List.mem_of_getElem? (i := 4) rfl))) (by decide) (backOf (W := 2) (rm1 l Z a0 hw [] i0 (2 : Int32)  h0 n0 Z0) hZ (hw _ (List.mem_of_getElem? (i := 4) rfl)) (hw _ (List.mem_of_getElem? (i := 3) rfl)) (by decide) (by decide)) (g := (mkF m 25 #[.val (.int i0), s1, s2, .val (.ref o3), s4, s5, s6, s7, s8, s9, s10, s11, s12, s13, s14, s15, s16] [(.int (2 : Int32)), (.int i0), (.int (2 : Int32)), (.ref o3)])) rfl (by rw [hml]; rfl) (argsL := [(.int i0), (.int (2 : Int32))]) (rest := [(.int (2 : Int32)), (.ref o3)]) (lenOf pd_0_0 rfl) rfl (by show 2 * 0 + _ ≤ _; exact Nat.le_of_eq rfl) (hb hby at_25) (fun _ _ => ⟨rfl, e0, (by decide : 1 + 0 ≤ _), (by decide : 12 + 0 ≤ _)⟩)
  dsimp only [Pt.U, Pt.locs, Pt.cells, Pt.slots] at X4 l4 y4 z4 st4 hQ4
  subst l4 y4 z4
  obtain ⟨rfl, N4q, e4⟩ := hQ4      -- what it returned, that it wrote nothing old, and the rest of your Q1
  have N4 := Fr.app N0 N4q
  obtain ⟨T5, h5, X5, e5, W5, st5⟩ := stI X4 hx hZ e4 Ar_o3 (j := (2 : Int32)) hin28 (g := (mkF m 28 #[.val (.int i0), s1, s2, .val (.ref o3), s4, s5, s6, s7, s8, s9, s10, s11, s12, s13, s14, s15, s16] [(.int (own_edge i0 (2 : Int32))), (.int (2 : Int32)), (.ref o3)])) rfl rfl (hb hby at_28)
  have N5 := Fr.snoc X5 N4 g_o3
  refine ⟨T5, _, _, X5, e5, N5, W5, fun target kt => ?_⟩
  show Steps p.tables e below (T0.setTop (mkF m 21 #[.val (.int i0), s1, s2, .val (.ref o3), s4, s5, s6, s7, s8, s9, s10, s11, s12, s13, s14, s15, s16] [])) _
  refine XS.aloadN X0.here hx rfl (hb hby at_21) rfl rfl ?_
  show Steps p.tables e below (T0.setTop (mkF m 22 #[.val (.int i0), s1, s2, .val (.ref o3), s4, s5, s6, s7, s8, s9, s10, s11, s12, s13, s14, s15, s16] [(.ref o3)])) _
  refine XS.iconst X0.here hx rfl (hb hby at_22) ?_
  show Steps p.tables e below (T0.setTop (mkF m 23 #[.val (.int i0), s1, s2, .val (.ref o3), s4, s5, s6, s7, s8, s9, s10, s11, s12, s13, s14, s15, s16] [(.int (2 : Int32)), (.ref o3)])) _
  refine XS.iloadN X0.here hx rfl (hb hby at_23) rfl ?_
  show Steps p.tables e below (T0.setTop (mkF m 24 #[.val (.int i0), s1, s2, .val (.ref o3), s4, s5, s6, s7, s8, s9, s10, s11, s12, s13, s14, s15, s16] [(.int i0), (.int (2 : Int32)), (.ref o3)])) _
  refine XS.iconst X0.here hx rfl (hb hby at_24) ?_
  show Steps p.tables e below (T0.setTop (mkF m 25 #[.val (.int i0), s1, s2, .val (.ref o3), s4, s5, s6, s7, s8, s9, s10, s11, s12, s13, s14, s15, s16] [(.int (2 : Int32)), (.int i0), (.int (2 : Int32)), (.ref o3)])) _
  refine st4 _ ?_
  show Steps p.tables e below (T4.setTop (mkF m 28 #[.val (.int i0), s1, s2, .val (.ref o3), s4, s5, s6, s7, s8, s9, s10, s11, s12, s13, s14, s15, s16] [(.int (own_edge i0 (2 : Int32))), (.int (2 : Int32)), (.ref o3)])) _
  refine st5 _ ?_
  exact kt

theorem fill_2 {p : Program} {l : Launch} {e : Env} {s : State} {m : MethodId} {args : Array Value} {below : List Frame} {meth : Method} {c : Code} {T0 : State} {locs : List Loc} {Z : State} {a0 : Array Value} {h0 : Heap} (t : Int32) (ta : Addr) (s1 s2 s4 s5 s6 s7 s8 s9 s10 s11 s12 s13 s14 s15 s16 : Slot) (n0 : Nat) (H0 : Heap)
    (X0 : Stand p l e room_1 s m args below meth c T0 locs 1 12) (hx : p.tables.exec = Jvm.exec) (hZ : Z.Warmed39 s.vm) (hw : ∀ d ∈ tables_1, d.before a0 Z = true) (hby : c.code = code) (hml : c.maxLocals = 17) (hown : s.vm.findClass "com/example/libpiecewise/libpiecewise/DfaRunPinLaw" = some m.cls) (e0 : T0.heap = h0) (Z0 : n0 ≤ h0.size) (N0 : Fr n0 locs) (gta : n0 ≤ ta) (hta : H0.size ≤ ta) (K0 : Keep H0 h0 []) (V : own_arr Z h0 ta 12 (fun j => if j < 2 then own_edge t (Int32.ofNat j) else 0)) :
    ∃ (T' : State) (h' : Heap) (locs' : List Loc), Stand p l e room_1 s m args below meth c T' locs' 1 12 ∧ T'.heap = h' ∧ Fr n0 locs' ∧ n0 ≤ h'.size ∧ Keep H0 h' [] ∧ own_arr Z h' ta 12 (fun j => if j < 3 then own_edge t (Int32.ofNat j) else 0) ∧
      ∀ target, Steps p.tables e below (T'.setTop (mkF m 29 #[.val (.int t), s1, s2, .val (.ref ta), s4, s5, s6, s7, s8, s9, s10, s11, s12, s13, s14, s15, s16] [])) target → Steps p.tables e below (T0.setTop (mkF m 21 #[.val (.int t), s1, s2, .val (.ref ta), s4, s5, s6, s7, s8, s9, s10, s11, s12, s13, s14, s15, s16] [])) target := by
  have V' := V
  obtain ⟨cl, Ar, S, H⟩ := V'
  obtain ⟨T', h', L', X', e', N', W', st⟩ := tA_2 t s1 s2 ta s4 s5 s6 s7 s8 s9 s10 s11 s12 s13 s14 s15 s16 cl n0 X0 hx hZ hw hby hml hown e0 Z0 N0 Ar (own_in (j := 2) S (by decide) (by decide)) gta
  refine ⟨T', h', L', X', e', N', by rw [W'.size]; exact Z0, K0.wr W' (Or.inr hta), ?_, st⟩
  refine (own_arr.set (j := 2) Ar S H W' (by decide) (by decide)).congr fun j hj => ?_
  by_cases e : j = 2
  · subst e
    rw [if_pos rfl, if_pos (by omega)]; rfl
  · rw [if_neg e]
    by_cases e2 : j < 2
    · rw [if_pos e2, if_pos (by omega)]
    · rw [if_neg e2, if_neg (by omega)]
set_option maxRecDepth 65536 in
set_option maxHeartbeats 40000000 in
theorem tA_3 {p : Program} {l : Launch} {e : Env} {s : State} {m : MethodId} {args : Array Value} {below : List Frame} {meth : Method} {c : Code} {T0 : State} {locs : List Loc} {Z : State} {a0 : Array Value} {h0 : Heap} (i0 : Int32) (s1 : Slot) (s2 : Slot) (o3 : Addr) (s4 : Slot) (s5 : Slot) (s6 : Slot) (s7 : Slot) (s8 : Slot) (s9 : Slot) (s10 : Slot) (s11 : Slot) (s12 : Slot) (s13 : Slot) (s14 : Slot) (s15 : Slot) (s16 : Slot) (cl_o3 : Cell) (n0 : Nat)
    (X0 : Stand p l e room_1 s m args below meth c T0 locs 1 12) (hx : p.tables.exec = Jvm.exec) (hZ : Z.Warmed39 s.vm) (hw : ∀ d ∈ tables_1, d.before a0 Z = true) (hby : c.code = code) (hml : c.maxLocals = 17) (hown : s.vm.findClass "com/example/libpiecewise/libpiecewise/DfaRunPinLaw" = some m.cls) (e0 : T0.heap = h0) (Z0 : n0 ≤ h0.size) (N0 : Fr n0 locs) (Ar_o3 : Arr Z h0 o3 cl_o3 .int) (hin36 : ¬ ((3 : Int32) < 0 ∨ cl_o3.slots.size ≤ ((3 : Int32)).toNatClampNeg)) (g_o3 : n0 ≤ o3) :
    ∃ (T' : State) (h' : Heap) (locs' : List Loc), Stand p l e room_1 s m args below meth c T' locs' 1 12 ∧ T'.heap = h' ∧ Fr n0 locs' ∧ Wr h0 h' o3 ((3 : Int32)).toNatClampNeg (.int (own_edge i0 (3 : Int32))) ∧
      ∀ target, Steps p.tables e below (T'.setTop (mkF m 37 #[.val (.int i0), s1, s2, .val (.ref o3), s4, s5, s6, s7, s8, s9, s10, s11, s12, s13, s14, s15, s16] [])) target → Steps p.tables e below (T0.setTop (mkF m 29 #[.val (.int i0), s1, s2, .val (.ref o3), s4, s5, s6, s7, s8, s9, s10, s11, s12, s13, s14, s15, s16] [])) target := by
  obtain ⟨_, _, ⟨T4, L4, k4, n4⟩, -, X4, ⟨Lc4, hQ4, l4, y4, z4⟩, st4⟩ := Jvm.LawKit.callS X0 hx (y := (⟨"com/example/libpiecewise/libpiecewise/DfaRunPinLaw", "edge", "(II)I"⟩ : MethodName)) hown (mvT hZ (hw _ (List.mem_of_getElem? (i := 1) rfl))) (mvT hZ (hw _ (List.mem_of_getElem? (i := 2) rfl))) (mvT hZ (hw _ (List.mem_of_getElem? (i := 3) rfl))) (mvT hZ (hw _ (List.mem_of_getElem? (i := 4) rfl))) (by decide) (backOf (W := 2) (rm1 l Z a0 hw [] i0 (3 : Int32)  h0 n0 Z0) hZ (hw _ (List.mem_of_getElem? (i := 4) rfl)) (hw _ (List.mem_of_getElem? (i := 3) rfl)) (by decide) (by decide)) (g := (mkF m 33 #[.val (.int i0), s1, s2, .val (.ref o3), s4, s5, s6, s7, s8, s9, s10, s11, s12, s13, s14, s15, s16] [(.int (3 : Int32)), (.int i0), (.int (3 : Int32)), (.ref o3)])) rfl (by rw [hml]; rfl) (argsL := [(.int i0), (.int (3 : Int32))]) (rest := [(.int (3 : Int32)), (.ref o3)]) (lenOf pd_0_0 rfl) rfl (by show 2 * 0 + _ ≤ _; exact Nat.le_of_eq rfl) (hb hby at_33) (fun _ _ => ⟨rfl, e0, (by decide : 1 + 0 ≤ _), (by decide : 12 + 0 ≤ _)⟩)
  dsimp only [Pt.U, Pt.locs, Pt.cells, Pt.slots] at X4 l4 y4 z4 st4 hQ4
  subst l4 y4 z4
  obtain ⟨rfl, N4q, e4⟩ := hQ4      -- what it returned, that it wrote nothing old, and the rest of your Q1
  have N4 := Fr.app N0 N4q
  obtain ⟨T5, h5, X5, e5, W5, st5⟩ := stI X4 hx hZ e4 Ar_o3 (j := (3 : Int32)) hin36 (g := (mkF m 36 #[.val (.int i0), s1, s2, .val (.ref o3), s4, s5, s6, s7, s8, s9, s10, s11, s12, s13, s14, s15, s16] [(.int (own_edge i0 (3 : Int32))), (.int (3 : Int32)), (.ref o3)])) rfl rfl (hb hby at_36)
  have N5 := Fr.snoc X5 N4 g_o3
  refine ⟨T5, _, _, X5, e5, N5, W5, fun target kt => ?_⟩
  show Steps p.tables e below (T0.setTop (mkF m 29 #[.val (.int i0), s1, s2, .val (.ref o3), s4, s5, s6, s7, s8, s9, s10, s11, s12, s13, s14, s15, s16] [])) _
  refine XS.aloadN X0.here hx rfl (hb hby at_29) rfl rfl ?_
  show Steps p.tables e below (T0.setTop (mkF m 30 #[.val (.int i0), s1, s2, .val (.ref o3), s4, s5, s6, s7, s8, s9, s10, s11, s12, s13, s14, s15, s16] [(.ref o3)])) _
  refine XS.iconst X0.here hx rfl (hb hby at_30) ?_
  show Steps p.tables e below (T0.setTop (mkF m 31 #[.val (.int i0), s1, s2, .val (.ref o3), s4, s5, s6, s7, s8, s9, s10, s11, s12, s13, s14, s15, s16] [(.int (3 : Int32)), (.ref o3)])) _
  refine XS.iloadN X0.here hx rfl (hb hby at_31) rfl ?_
  show Steps p.tables e below (T0.setTop (mkF m 32 #[.val (.int i0), s1, s2, .val (.ref o3), s4, s5, s6, s7, s8, s9, s10, s11, s12, s13, s14, s15, s16] [(.int i0), (.int (3 : Int32)), (.ref o3)])) _
  refine XS.iconst X0.here hx rfl (hb hby at_32) ?_
  show Steps p.tables e below (T0.setTop (mkF m 33 #[.val (.int i0), s1, s2, .val (.ref o3), s4, s5, s6, s7, s8, s9, s10, s11, s12, s13, s14, s15, s16] [(.int (3 : Int32)), (.int i0), (.int (3 : Int32)), (.ref o3)])) _
  refine st4 _ ?_
  show Steps p.tables e below (T4.setTop (mkF m 36 #[.val (.int i0), s1, s2, .val (.ref o3), s4, s5, s6, s7, s8, s9, s10, s11, s12, s13, s14, s15, s16] [(.int (own_edge i0 (3 : Int32))), (.int (3 : Int32)), (.ref o3)])) _
  refine st5 _ ?_
  exact kt

theorem fill_3 {p : Program} {l : Launch} {e : Env} {s : State} {m : MethodId} {args : Array Value} {below : List Frame} {meth : Method} {c : Code} {T0 : State} {locs : List Loc} {Z : State} {a0 : Array Value} {h0 : Heap} (t : Int32) (ta : Addr) (s1 s2 s4 s5 s6 s7 s8 s9 s10 s11 s12 s13 s14 s15 s16 : Slot) (n0 : Nat) (H0 : Heap)
    (X0 : Stand p l e room_1 s m args below meth c T0 locs 1 12) (hx : p.tables.exec = Jvm.exec) (hZ : Z.Warmed39 s.vm) (hw : ∀ d ∈ tables_1, d.before a0 Z = true) (hby : c.code = code) (hml : c.maxLocals = 17) (hown : s.vm.findClass "com/example/libpiecewise/libpiecewise/DfaRunPinLaw" = some m.cls) (e0 : T0.heap = h0) (Z0 : n0 ≤ h0.size) (N0 : Fr n0 locs) (gta : n0 ≤ ta) (hta : H0.size ≤ ta) (K0 : Keep H0 h0 []) (V : own_arr Z h0 ta 12 (fun j => if j < 3 then own_edge t (Int32.ofNat j) else 0)) :
    ∃ (T' : State) (h' : Heap) (locs' : List Loc), Stand p l e room_1 s m args below meth c T' locs' 1 12 ∧ T'.heap = h' ∧ Fr n0 locs' ∧ n0 ≤ h'.size ∧ Keep H0 h' [] ∧ own_arr Z h' ta 12 (fun j => if j < 4 then own_edge t (Int32.ofNat j) else 0) ∧
      ∀ target, Steps p.tables e below (T'.setTop (mkF m 37 #[.val (.int t), s1, s2, .val (.ref ta), s4, s5, s6, s7, s8, s9, s10, s11, s12, s13, s14, s15, s16] [])) target → Steps p.tables e below (T0.setTop (mkF m 29 #[.val (.int t), s1, s2, .val (.ref ta), s4, s5, s6, s7, s8, s9, s10, s11, s12, s13, s14, s15, s16] [])) target := by
  have V' := V
  obtain ⟨cl, Ar, S, H⟩ := V'
  obtain ⟨T', h', L', X', e', N', W', st⟩ := tA_3 t s1 s2 ta s4 s5 s6 s7 s8 s9 s10 s11 s12 s13 s14 s15 s16 cl n0 X0 hx hZ hw hby hml hown e0 Z0 N0 Ar (own_in (j := 3) S (by decide) (by decide)) gta
  refine ⟨T', h', L', X', e', N', by rw [W'.size]; exact Z0, K0.wr W' (Or.inr hta), ?_, st⟩
  refine (own_arr.set (j := 3) Ar S H W' (by decide) (by decide)).congr fun j hj => ?_
  by_cases e : j = 3
  · subst e
    rw [if_pos rfl, if_pos (by omega)]; rfl
  · rw [if_neg e]
    by_cases e2 : j < 3
    · rw [if_pos e2, if_pos (by omega)]
    · rw [if_neg e2, if_neg (by omega)]
set_option maxRecDepth 65536 in
set_option maxHeartbeats 40000000 in
theorem tA_4 {p : Program} {l : Launch} {e : Env} {s : State} {m : MethodId} {args : Array Value} {below : List Frame} {meth : Method} {c : Code} {T0 : State} {locs : List Loc} {Z : State} {a0 : Array Value} {h0 : Heap} (i0 : Int32) (s1 : Slot) (s2 : Slot) (o3 : Addr) (s4 : Slot) (s5 : Slot) (s6 : Slot) (s7 : Slot) (s8 : Slot) (s9 : Slot) (s10 : Slot) (s11 : Slot) (s12 : Slot) (s13 : Slot) (s14 : Slot) (s15 : Slot) (s16 : Slot) (cl_o3 : Cell) (n0 : Nat)
    (X0 : Stand p l e room_1 s m args below meth c T0 locs 1 12) (hx : p.tables.exec = Jvm.exec) (hZ : Z.Warmed39 s.vm) (hw : ∀ d ∈ tables_1, d.before a0 Z = true) (hby : c.code = code) (hml : c.maxLocals = 17) (hown : s.vm.findClass "com/example/libpiecewise/libpiecewise/DfaRunPinLaw" = some m.cls) (e0 : T0.heap = h0) (Z0 : n0 ≤ h0.size) (N0 : Fr n0 locs) (Ar_o3 : Arr Z h0 o3 cl_o3 .int) (hin44 : ¬ ((4 : Int32) < 0 ∨ cl_o3.slots.size ≤ ((4 : Int32)).toNatClampNeg)) (g_o3 : n0 ≤ o3) :
    ∃ (T' : State) (h' : Heap) (locs' : List Loc), Stand p l e room_1 s m args below meth c T' locs' 1 12 ∧ T'.heap = h' ∧ Fr n0 locs' ∧ Wr h0 h' o3 ((4 : Int32)).toNatClampNeg (.int (own_edge i0 (4 : Int32))) ∧
      ∀ target, Steps p.tables e below (T'.setTop (mkF m 45 #[.val (.int i0), s1, s2, .val (.ref o3), s4, s5, s6, s7, s8, s9, s10, s11, s12, s13, s14, s15, s16] [])) target → Steps p.tables e below (T0.setTop (mkF m 37 #[.val (.int i0), s1, s2, .val (.ref o3), s4, s5, s6, s7, s8, s9, s10, s11, s12, s13, s14, s15, s16] [])) target := by
  obtain ⟨_, _, ⟨T4, L4, k4, n4⟩, -, X4, ⟨Lc4, hQ4, l4, y4, z4⟩, st4⟩ := Jvm.LawKit.callS X0 hx (y := (⟨"com/example/libpiecewise/libpiecewise/DfaRunPinLaw", "edge", "(II)I"⟩ : MethodName)) hown (mvT hZ (hw _ (List.mem_of_getElem? (i := 1) rfl))) (mvT hZ (hw _ (List.mem_of_getElem? (i := 2) rfl))) (mvT hZ (hw _ (List.mem_of_getElem? (i := 3) rfl))) (mvT hZ (hw _ (List.mem_of_getElem? (i := 4) rfl))) (by decide) (backOf (W := 2) (rm1 l Z a0 hw [] i0 (4 : Int32)  h0 n0 Z0) hZ (hw _ (List.mem_of_getElem? (i := 4) rfl)) (hw _ (List.mem_of_getElem? (i := 3) rfl)) (by decide) (by decide)) (g := (mkF m 41 #[.val (.int i0), s1, s2, .val (.ref o3), s4, s5, s6, s7, s8, s9, s10, s11, s12, s13, s14, s15, s16] [(.int (4 : Int32)), (.int i0), (.int (4 : Int32)), (.ref o3)])) rfl (by rw [hml]; rfl) (argsL := [(.int i0), (.int (4 : Int32))]) (rest := [(.int (4 : Int32)), (.ref o3)]) (lenOf pd_0_0 rfl) rfl (by show 2 * 0 + _ ≤ _; exact Nat.le_of_eq rfl) (hb hby at_41) (fun _ _ => ⟨rfl, e0, (by decide : 1 + 0 ≤ _), (by decide : 12 + 0 ≤ _)⟩)
  dsimp only [Pt.U, Pt.locs, Pt.cells, Pt.slots] at X4 l4 y4 z4 st4 hQ4
  subst l4 y4 z4
  obtain ⟨rfl, N4q, e4⟩ := hQ4      -- what it returned, that it wrote nothing old, and the rest of your Q1
  have N4 := Fr.app N0 N4q
  obtain ⟨T5, h5, X5, e5, W5, st5⟩ := stI X4 hx hZ e4 Ar_o3 (j := (4 : Int32)) hin44 (g := (mkF m 44 #[.val (.int i0), s1, s2, .val (.ref o3), s4, s5, s6, s7, s8, s9, s10, s11, s12, s13, s14, s15, s16] [(.int (own_edge i0 (4 : Int32))), (.int (4 : Int32)), (.ref o3)])) rfl rfl (hb hby at_44)
  have N5 := Fr.snoc X5 N4 g_o3
  refine ⟨T5, _, _, X5, e5, N5, W5, fun target kt => ?_⟩
  show Steps p.tables e below (T0.setTop (mkF m 37 #[.val (.int i0), s1, s2, .val (.ref o3), s4, s5, s6, s7, s8, s9, s10, s11, s12, s13, s14, s15, s16] [])) _
  refine XS.aloadN X0.here hx rfl (hb hby at_37) rfl rfl ?_
  show Steps p.tables e below (T0.setTop (mkF m 38 #[.val (.int i0), s1, s2, .val (.ref o3), s4, s5, s6, s7, s8, s9, s10, s11, s12, s13, s14, s15, s16] [(.ref o3)])) _
  refine XS.iconst X0.here hx rfl (hb hby at_38) ?_
  show Steps p.tables e below (T0.setTop (mkF m 39 #[.val (.int i0), s1, s2, .val (.ref o3), s4, s5, s6, s7, s8, s9, s10, s11, s12, s13, s14, s15, s16] [(.int (4 : Int32)), (.ref o3)])) _
  refine XS.iloadN X0.here hx rfl (hb hby at_39) rfl ?_
  show Steps p.tables e below (T0.setTop (mkF m 40 #[.val (.int i0), s1, s2, .val (.ref o3), s4, s5, s6, s7, s8, s9, s10, s11, s12, s13, s14, s15, s16] [(.int i0), (.int (4 : Int32)), (.ref o3)])) _
  refine XS.iconst X0.here hx rfl (hb hby at_40) ?_
  show Steps p.tables e below (T0.setTop (mkF m 41 #[.val (.int i0), s1, s2, .val (.ref o3), s4, s5, s6, s7, s8, s9, s10, s11, s12, s13, s14, s15, s16] [(.int (4 : Int32)), (.int i0), (.int (4 : Int32)), (.ref o3)])) _
  refine st4 _ ?_
  show Steps p.tables e below (T4.setTop (mkF m 44 #[.val (.int i0), s1, s2, .val (.ref o3), s4, s5, s6, s7, s8, s9, s10, s11, s12, s13, s14, s15, s16] [(.int (own_edge i0 (4 : Int32))), (.int (4 : Int32)), (.ref o3)])) _
  refine st5 _ ?_
  exact kt

theorem fill_4 {p : Program} {l : Launch} {e : Env} {s : State} {m : MethodId} {args : Array Value} {below : List Frame} {meth : Method} {c : Code} {T0 : State} {locs : List Loc} {Z : State} {a0 : Array Value} {h0 : Heap} (t : Int32) (ta : Addr) (s1 s2 s4 s5 s6 s7 s8 s9 s10 s11 s12 s13 s14 s15 s16 : Slot) (n0 : Nat) (H0 : Heap)
    (X0 : Stand p l e room_1 s m args below meth c T0 locs 1 12) (hx : p.tables.exec = Jvm.exec) (hZ : Z.Warmed39 s.vm) (hw : ∀ d ∈ tables_1, d.before a0 Z = true) (hby : c.code = code) (hml : c.maxLocals = 17) (hown : s.vm.findClass "com/example/libpiecewise/libpiecewise/DfaRunPinLaw" = some m.cls) (e0 : T0.heap = h0) (Z0 : n0 ≤ h0.size) (N0 : Fr n0 locs) (gta : n0 ≤ ta) (hta : H0.size ≤ ta) (K0 : Keep H0 h0 []) (V : own_arr Z h0 ta 12 (fun j => if j < 4 then own_edge t (Int32.ofNat j) else 0)) :
    ∃ (T' : State) (h' : Heap) (locs' : List Loc), Stand p l e room_1 s m args below meth c T' locs' 1 12 ∧ T'.heap = h' ∧ Fr n0 locs' ∧ n0 ≤ h'.size ∧ Keep H0 h' [] ∧ own_arr Z h' ta 12 (fun j => if j < 5 then own_edge t (Int32.ofNat j) else 0) ∧
      ∀ target, Steps p.tables e below (T'.setTop (mkF m 45 #[.val (.int t), s1, s2, .val (.ref ta), s4, s5, s6, s7, s8, s9, s10, s11, s12, s13, s14, s15, s16] [])) target → Steps p.tables e below (T0.setTop (mkF m 37 #[.val (.int t), s1, s2, .val (.ref ta), s4, s5, s6, s7, s8, s9, s10, s11, s12, s13, s14, s15, s16] [])) target := by
  have V' := V
  obtain ⟨cl, Ar, S, H⟩ := V'
  obtain ⟨T', h', L', X', e', N', W', st⟩ := tA_4 t s1 s2 ta s4 s5 s6 s7 s8 s9 s10 s11 s12 s13 s14 s15 s16 cl n0 X0 hx hZ hw hby hml hown e0 Z0 N0 Ar (own_in (j := 4) S (by decide) (by decide)) gta
  refine ⟨T', h', L', X', e', N', by rw [W'.size]; exact Z0, K0.wr W' (Or.inr hta), ?_, st⟩
  refine (own_arr.set (j := 4) Ar S H W' (by decide) (by decide)).congr fun j hj => ?_
  by_cases e : j = 4
  · subst e
    rw [if_pos rfl, if_pos (by omega)]; rfl
  · rw [if_neg e]
    by_cases e2 : j < 4
    · rw [if_pos e2, if_pos (by omega)]
    · rw [if_neg e2, if_neg (by omega)]
set_option maxRecDepth 65536 in
set_option maxHeartbeats 40000000 in
theorem tA_5 {p : Program} {l : Launch} {e : Env} {s : State} {m : MethodId} {args : Array Value} {below : List Frame} {meth : Method} {c : Code} {T0 : State} {locs : List Loc} {Z : State} {a0 : Array Value} {h0 : Heap} (i0 : Int32) (s1 : Slot) (s2 : Slot) (o3 : Addr) (s4 : Slot) (s5 : Slot) (s6 : Slot) (s7 : Slot) (s8 : Slot) (s9 : Slot) (s10 : Slot) (s11 : Slot) (s12 : Slot) (s13 : Slot) (s14 : Slot) (s15 : Slot) (s16 : Slot) (cl_o3 : Cell) (n0 : Nat)
    (X0 : Stand p l e room_1 s m args below meth c T0 locs 1 12) (hx : p.tables.exec = Jvm.exec) (hZ : Z.Warmed39 s.vm) (hw : ∀ d ∈ tables_1, d.before a0 Z = true) (hby : c.code = code) (hml : c.maxLocals = 17) (hown : s.vm.findClass "com/example/libpiecewise/libpiecewise/DfaRunPinLaw" = some m.cls) (e0 : T0.heap = h0) (Z0 : n0 ≤ h0.size) (N0 : Fr n0 locs) (Ar_o3 : Arr Z h0 o3 cl_o3 .int) (hin52 : ¬ ((5 : Int32) < 0 ∨ cl_o3.slots.size ≤ ((5 : Int32)).toNatClampNeg)) (g_o3 : n0 ≤ o3) :
    ∃ (T' : State) (h' : Heap) (locs' : List Loc), Stand p l e room_1 s m args below meth c T' locs' 1 12 ∧ T'.heap = h' ∧ Fr n0 locs' ∧ Wr h0 h' o3 ((5 : Int32)).toNatClampNeg (.int (own_edge i0 (5 : Int32))) ∧
      ∀ target, Steps p.tables e below (T'.setTop (mkF m 53 #[.val (.int i0), s1, s2, .val (.ref o3), s4, s5, s6, s7, s8, s9, s10, s11, s12, s13, s14, s15, s16] [])) target → Steps p.tables e below (T0.setTop (mkF m 45 #[.val (.int i0), s1, s2, .val (.ref o3), s4, s5, s6, s7, s8, s9, s10, s11, s12, s13, s14, s15, s16] [])) target := by
  obtain ⟨_, _, ⟨T4, L4, k4, n4⟩, -, X4, ⟨Lc4, hQ4, l4, y4, z4⟩, st4⟩ := Jvm.LawKit.callS X0 hx (y := (⟨"com/example/libpiecewise/libpiecewise/DfaRunPinLaw", "edge", "(II)I"⟩ : MethodName)) hown (mvT hZ (hw _ (List.mem_of_getElem? (i := 1) rfl))) (mvT hZ (hw _ (List.mem_of_getElem? (i := 2) rfl))) (mvT hZ (hw _ (List.mem_of_getElem? (i := 3) rfl))) (mvT hZ (hw _ (List.mem_of_getElem? (i := 4) rfl))) (by decide) (backOf (W := 2) (rm1 l Z a0 hw [] i0 (5 : Int32)  h0 n0 Z0) hZ (hw _ (List.mem_of_getElem? (i := 4) rfl)) (hw _ (List.mem_of_getElem? (i := 3) rfl)) (by decide) (by decide)) (g := (mkF m 49 #[.val (.int i0), s1, s2, .val (.ref o3), s4, s5, s6, s7, s8, s9, s10, s11, s12, s13, s14, s15, s16] [(.int (5 : Int32)), (.int i0), (.int (5 : Int32)), (.ref o3)])) rfl (by rw [hml]; rfl) (argsL := [(.int i0), (.int (5 : Int32))]) (rest := [(.int (5 : Int32)), (.ref o3)]) (lenOf pd_0_0 rfl) rfl (by show 2 * 0 + _ ≤ _; exact Nat.le_of_eq rfl) (hb hby at_49) (fun _ _ => ⟨rfl, e0, (by decide : 1 + 0 ≤ _), (by decide : 12 + 0 ≤ _)⟩)
  dsimp only [Pt.U, Pt.locs, Pt.cells, Pt.slots] at X4 l4 y4 z4 st4 hQ4
  subst l4 y4 z4
  obtain ⟨rfl, N4q, e4⟩ := hQ4      -- what it returned, that it wrote nothing old, and the rest of your Q1
  have N4 := Fr.app N0 N4q
  obtain ⟨T5, h5, X5, e5, W5, st5⟩ := stI X4 hx hZ e4 Ar_o3 (j := (5 : Int32)) hin52 (g := (mkF m 52 #[.val (.int i0), s1, s2, .val (.ref o3), s4, s5, s6, s7, s8, s9, s10, s11, s12, s13, s14, s15, s16] [(.int (own_edge i0 (5 : Int32))), (.int (5 : Int32)), (.ref o3)])) rfl rfl (hb hby at_52)
  have N5 := Fr.snoc X5 N4 g_o3
  refine ⟨T5, _, _, X5, e5, N5, W5, fun target kt => ?_⟩
  show Steps p.tables e below (T0.setTop (mkF m 45 #[.val (.int i0), s1, s2, .val (.ref o3), s4, s5, s6, s7, s8, s9, s10, s11, s12, s13, s14, s15, s16] [])) _
  refine XS.aloadN X0.here hx rfl (hb hby at_45) rfl rfl ?_
  show Steps p.tables e below (T0.setTop (mkF m 46 #[.val (.int i0), s1, s2, .val (.ref o3), s4, s5, s6, s7, s8, s9, s10, s11, s12, s13, s14, s15, s16] [(.ref o3)])) _
  refine XS.iconst X0.here hx rfl (hb hby at_46) ?_
  show Steps p.tables e below (T0.setTop (mkF m 47 #[.val (.int i0), s1, s2, .val (.ref o3), s4, s5, s6, s7, s8, s9, s10, s11, s12, s13, s14, s15, s16] [(.int (5 : Int32)), (.ref o3)])) _
  refine XS.iloadN X0.here hx rfl (hb hby at_47) rfl ?_
  show Steps p.tables e below (T0.setTop (mkF m 48 #[.val (.int i0), s1, s2, .val (.ref o3), s4, s5, s6, s7, s8, s9, s10, s11, s12, s13, s14, s15, s16] [(.int i0), (.int (5 : Int32)), (.ref o3)])) _
  refine XS.iconst X0.here hx rfl (hb hby at_48) ?_
  show Steps p.tables e below (T0.setTop (mkF m 49 #[.val (.int i0), s1, s2, .val (.ref o3), s4, s5, s6, s7, s8, s9, s10, s11, s12, s13, s14, s15, s16] [(.int (5 : Int32)), (.int i0), (.int (5 : Int32)), (.ref o3)])) _
  refine st4 _ ?_
  show Steps p.tables e below (T4.setTop (mkF m 52 #[.val (.int i0), s1, s2, .val (.ref o3), s4, s5, s6, s7, s8, s9, s10, s11, s12, s13, s14, s15, s16] [(.int (own_edge i0 (5 : Int32))), (.int (5 : Int32)), (.ref o3)])) _
  refine st5 _ ?_
  exact kt

theorem fill_5 {p : Program} {l : Launch} {e : Env} {s : State} {m : MethodId} {args : Array Value} {below : List Frame} {meth : Method} {c : Code} {T0 : State} {locs : List Loc} {Z : State} {a0 : Array Value} {h0 : Heap} (t : Int32) (ta : Addr) (s1 s2 s4 s5 s6 s7 s8 s9 s10 s11 s12 s13 s14 s15 s16 : Slot) (n0 : Nat) (H0 : Heap)
    (X0 : Stand p l e room_1 s m args below meth c T0 locs 1 12) (hx : p.tables.exec = Jvm.exec) (hZ : Z.Warmed39 s.vm) (hw : ∀ d ∈ tables_1, d.before a0 Z = true) (hby : c.code = code) (hml : c.maxLocals = 17) (hown : s.vm.findClass "com/example/libpiecewise/libpiecewise/DfaRunPinLaw" = some m.cls) (e0 : T0.heap = h0) (Z0 : n0 ≤ h0.size) (N0 : Fr n0 locs) (gta : n0 ≤ ta) (hta : H0.size ≤ ta) (K0 : Keep H0 h0 []) (V : own_arr Z h0 ta 12 (fun j => if j < 5 then own_edge t (Int32.ofNat j) else 0)) :
    ∃ (T' : State) (h' : Heap) (locs' : List Loc), Stand p l e room_1 s m args below meth c T' locs' 1 12 ∧ T'.heap = h' ∧ Fr n0 locs' ∧ n0 ≤ h'.size ∧ Keep H0 h' [] ∧ own_arr Z h' ta 12 (fun j => if j < 6 then own_edge t (Int32.ofNat j) else 0) ∧
      ∀ target, Steps p.tables e below (T'.setTop (mkF m 53 #[.val (.int t), s1, s2, .val (.ref ta), s4, s5, s6, s7, s8, s9, s10, s11, s12, s13, s14, s15, s16] [])) target → Steps p.tables e below (T0.setTop (mkF m 45 #[.val (.int t), s1, s2, .val (.ref ta), s4, s5, s6, s7, s8, s9, s10, s11, s12, s13, s14, s15, s16] [])) target := by
  have V' := V
  obtain ⟨cl, Ar, S, H⟩ := V'
  obtain ⟨T', h', L', X', e', N', W', st⟩ := tA_5 t s1 s2 ta s4 s5 s6 s7 s8 s9 s10 s11 s12 s13 s14 s15 s16 cl n0 X0 hx hZ hw hby hml hown e0 Z0 N0 Ar (own_in (j := 5) S (by decide) (by decide)) gta
  refine ⟨T', h', L', X', e', N', by rw [W'.size]; exact Z0, K0.wr W' (Or.inr hta), ?_, st⟩
  refine (own_arr.set (j := 5) Ar S H W' (by decide) (by decide)).congr fun j hj => ?_
  by_cases e : j = 5
  · subst e
    rw [if_pos rfl, if_pos (by omega)]; rfl
  · rw [if_neg e]
    by_cases e2 : j < 5
    · rw [if_pos e2, if_pos (by omega)]
    · rw [if_neg e2, if_neg (by omega)]
set_option maxRecDepth 65536 in
set_option maxHeartbeats 40000000 in
theorem tA_6 {p : Program} {l : Launch} {e : Env} {s : State} {m : MethodId} {args : Array Value} {below : List Frame} {meth : Method} {c : Code} {T0 : State} {locs : List Loc} {Z : State} {a0 : Array Value} {h0 : Heap} (i0 : Int32) (s1 : Slot) (s2 : Slot) (o3 : Addr) (s4 : Slot) (s5 : Slot) (s6 : Slot) (s7 : Slot) (s8 : Slot) (s9 : Slot) (s10 : Slot) (s11 : Slot) (s12 : Slot) (s13 : Slot) (s14 : Slot) (s15 : Slot) (s16 : Slot) (cl_o3 : Cell) (n0 : Nat)
    (X0 : Stand p l e room_1 s m args below meth c T0 locs 1 12) (hx : p.tables.exec = Jvm.exec) (hZ : Z.Warmed39 s.vm) (hw : ∀ d ∈ tables_1, d.before a0 Z = true) (hby : c.code = code) (hml : c.maxLocals = 17) (hown : s.vm.findClass "com/example/libpiecewise/libpiecewise/DfaRunPinLaw" = some m.cls) (e0 : T0.heap = h0) (Z0 : n0 ≤ h0.size) (N0 : Fr n0 locs) (Ar_o3 : Arr Z h0 o3 cl_o3 .int) (hin62 : ¬ ((6 : Int32) < 0 ∨ cl_o3.slots.size ≤ ((6 : Int32)).toNatClampNeg)) (g_o3 : n0 ≤ o3) :
    ∃ (T' : State) (h' : Heap) (locs' : List Loc), Stand p l e room_1 s m args below meth c T' locs' 1 12 ∧ T'.heap = h' ∧ Fr n0 locs' ∧ Wr h0 h' o3 ((6 : Int32)).toNatClampNeg (.int (own_edge i0 (6 : Int32))) ∧
      ∀ target, Steps p.tables e below (T'.setTop (mkF m 63 #[.val (.int i0), s1, s2, .val (.ref o3), s4, s5, s6, s7, s8, s9, s10, s11, s12, s13, s14, s15, s16] [])) target → Steps p.tables e below (T0.setTop (mkF m 53 #[.val (.int i0), s1, s2, .val (.ref o3), s4, s5, s6, s7, s8, s9, s10, s11, s12, s13, s14, s15, s16] [])) target := by
  obtain ⟨_, _, ⟨T4, L4, k4, n4⟩, -, X4, ⟨Lc4, hQ4, l4, y4, z4⟩, st4⟩ := Jvm.LawKit.callS X0 hx (y := (⟨"com/example/libpiecewise/libpiecewise/DfaRunPinLaw", "edge", "(II)I"⟩ : MethodName)) hown (mvT hZ (hw _ (List.mem_of_getElem? (i := 1) rfl))) (mvT hZ (hw _ (List.mem_of_getElem? (i := 2) rfl))) (mvT hZ (hw _ (List.mem_of_getElem? (i := 3) rfl))) (mvT hZ (hw _ (List.mem_of_getElem? (i := 4) rfl))) (by decide) (backOf (W := 2) (rm1 l Z a0 hw [] i0 (6 : Int32)  h0 n0 Z0) hZ (hw _ (List.mem_of_getElem? (i := 4) rfl)) (hw _ (List.mem_of_getElem? (i := 3) rfl)) (by decide) (by decide)) (g := (mkF m 59 #[.val (.int i0), s1, s2, .val (.ref o3), s4, s5, s6, s7, s8, s9, s10, s11, s12, s13, s14, s15, s16] [(.int (6 : Int32)), (.int i0), (.int (6 : Int32)), (.ref o3)])) rfl (by rw [hml]; rfl) (argsL := [(.int i0), (.int (6 : Int32))]) (rest := [(.int (6 : Int32)), (.ref o3)]) (lenOf pd_0_0 rfl) rfl (by show 2 * 0 + _ ≤ _; exact Nat.le_of_eq rfl) (hb hby at_59) (fun _ _ => ⟨rfl, e0, (by decide : 1 + 0 ≤ _), (by decide : 12 + 0 ≤ _)⟩)
  dsimp only [Pt.U, Pt.locs, Pt.cells, Pt.slots] at X4 l4 y4 z4 st4 hQ4
  subst l4 y4 z4
  obtain ⟨rfl, N4q, e4⟩ := hQ4      -- what it returned, that it wrote nothing old, and the rest of your Q1
  have N4 := Fr.app N0 N4q
  obtain ⟨T5, h5, X5, e5, W5, st5⟩ := stI X4 hx hZ e4 Ar_o3 (j := (6 : Int32)) hin62 (g := (mkF m 62 #[.val (.int i0), s1, s2, .val (.ref o3), s4, s5, s6, s7, s8, s9, s10, s11, s12, s13, s14, s15, s16] [(.int (own_edge i0 (6 : Int32))), (.int (6 : Int32)), (.ref o3)])) rfl rfl (hb hby at_62)
  have N5 := Fr.snoc X5 N4 g_o3
  refine ⟨T5, _, _, X5, e5, N5, W5, fun target kt => ?_⟩
  show Steps p.tables e below (T0.setTop (mkF m 53 #[.val (.int i0), s1, s2, .val (.ref o3), s4, s5, s6, s7, s8, s9, s10, s11, s12, s13, s14, s15, s16] [])) _
  refine XS.aloadN X0.here hx rfl (hb hby at_53) rfl rfl ?_
  show Steps p.tables e below (T0.setTop (mkF m 54 #[.val (.int i0), s1, s2, .val (.ref o3), s4, s5, s6, s7, s8, s9, s10, s11, s12, s13, s14, s15, s16] [(.ref o3)])) _
  refine XS.bipush X0.here hx rfl (hb hby at_54) ?_
  show Steps p.tables e below (T0.setTop (mkF m 56 #[.val (.int i0), s1, s2, .val (.ref o3), s4, s5, s6, s7, s8, s9, s10, s11, s12, s13, s14, s15, s16] [(.int (6 : Int32)), (.ref o3)])) _
  refine XS.iloadN X0.here hx rfl (hb hby at_56) rfl ?_
  show Steps p.tables e below (T0.setTop (mkF m 57 #[.val (.int i0), s1, s2, .val (.ref o3), s4, s5, s6, s7, s8, s9, s10, s11, s12, s13, s14, s15, s16] [(.int i0), (.int (6 : Int32)), (.ref o3)])) _
  refine XS.bipush X0.here hx rfl (hb hby at_57) ?_
  show Steps p.tables e below (T0.setTop (mkF m 59 #[.val (.int i0), s1, s2, .val (.ref o3), s4, s5, s6, s7, s8, s9, s10, s11, s12, s13, s14, s15, s16] [(.int (6 : Int32)), (.int i0), (.int (6 : Int32)), (.ref o3)])) _
  refine st4 _ ?_
  show Steps p.tables e below (T4.setTop (mkF m 62 #[.val (.int i0), s1, s2, .val (.ref o3), s4, s5, s6, s7, s8, s9, s10, s11, s12, s13, s14, s15, s16] [(.int (own_edge i0 (6 : Int32))), (.int (6 : Int32)), (.ref o3)])) _
  refine st5 _ ?_
  exact kt

theorem fill_6 {p : Program} {l : Launch} {e : Env} {s : State} {m : MethodId} {args : Array Value} {below : List Frame} {meth : Method} {c : Code} {T0 : State} {locs : List Loc} {Z : State} {a0 : Array Value} {h0 : Heap} (t : Int32) (ta : Addr) (s1 s2 s4 s5 s6 s7 s8 s9 s10 s11 s12 s13 s14 s15 s16 : Slot) (n0 : Nat) (H0 : Heap)
    (X0 : Stand p l e room_1 s m args below meth c T0 locs 1 12) (hx : p.tables.exec = Jvm.exec) (hZ : Z.Warmed39 s.vm) (hw : ∀ d ∈ tables_1, d.before a0 Z = true) (hby : c.code = code) (hml : c.maxLocals = 17) (hown : s.vm.findClass "com/example/libpiecewise/libpiecewise/DfaRunPinLaw" = some m.cls) (e0 : T0.heap = h0) (Z0 : n0 ≤ h0.size) (N0 : Fr n0 locs) (gta : n0 ≤ ta) (hta : H0.size ≤ ta) (K0 : Keep H0 h0 []) (V : own_arr Z h0 ta 12 (fun j => if j < 6 then own_edge t (Int32.ofNat j) else 0)) :
    ∃ (T' : State) (h' : Heap) (locs' : List Loc), Stand p l e room_1 s m args below meth c T' locs' 1 12 ∧ T'.heap = h' ∧ Fr n0 locs' ∧ n0 ≤ h'.size ∧ Keep H0 h' [] ∧ own_arr Z h' ta 12 (fun j => if j < 7 then own_edge t (Int32.ofNat j) else 0) ∧
      ∀ target, Steps p.tables e below (T'.setTop (mkF m 63 #[.val (.int t), s1, s2, .val (.ref ta), s4, s5, s6, s7, s8, s9, s10, s11, s12, s13, s14, s15, s16] [])) target → Steps p.tables e below (T0.setTop (mkF m 53 #[.val (.int t), s1, s2, .val (.ref ta), s4, s5, s6, s7, s8, s9, s10, s11, s12, s13, s14, s15, s16] [])) target := by
  have V' := V
  obtain ⟨cl, Ar, S, H⟩ := V'
  obtain ⟨T', h', L', X', e', N', W', st⟩ := tA_6 t s1 s2 ta s4 s5 s6 s7 s8 s9 s10 s11 s12 s13 s14 s15 s16 cl n0 X0 hx hZ hw hby hml hown e0 Z0 N0 Ar (own_in (j := 6) S (by decide) (by decide)) gta
  refine ⟨T', h', L', X', e', N', by rw [W'.size]; exact Z0, K0.wr W' (Or.inr hta), ?_, st⟩
  refine (own_arr.set (j := 6) Ar S H W' (by decide) (by decide)).congr fun j hj => ?_
  by_cases e : j = 6
  · subst e
    rw [if_pos rfl, if_pos (by omega)]; rfl
  · rw [if_neg e]
    by_cases e2 : j < 6
    · rw [if_pos e2, if_pos (by omega)]
    · rw [if_neg e2, if_neg (by omega)]
set_option maxRecDepth 65536 in
set_option maxHeartbeats 40000000 in
theorem tA_7 {p : Program} {l : Launch} {e : Env} {s : State} {m : MethodId} {args : Array Value} {below : List Frame} {meth : Method} {c : Code} {T0 : State} {locs : List Loc} {Z : State} {a0 : Array Value} {h0 : Heap} (i0 : Int32) (s1 : Slot) (s2 : Slot) (o3 : Addr) (s4 : Slot) (s5 : Slot) (s6 : Slot) (s7 : Slot) (s8 : Slot) (s9 : Slot) (s10 : Slot) (s11 : Slot) (s12 : Slot) (s13 : Slot) (s14 : Slot) (s15 : Slot) (s16 : Slot) (cl_o3 : Cell) (n0 : Nat)
    (X0 : Stand p l e room_1 s m args below meth c T0 locs 1 12) (hx : p.tables.exec = Jvm.exec) (hZ : Z.Warmed39 s.vm) (hw : ∀ d ∈ tables_1, d.before a0 Z = true) (hby : c.code = code) (hml : c.maxLocals = 17) (hown : s.vm.findClass "com/example/libpiecewise/libpiecewise/DfaRunPinLaw" = some m.cls) (e0 : T0.heap = h0) (Z0 : n0 ≤ h0.size) (N0 : Fr n0 locs) (Ar_o3 : Arr Z h0 o3 cl_o3 .int) (hin72 : ¬ ((7 : Int32) < 0 ∨ cl_o3.slots.size ≤ ((7 : Int32)).toNatClampNeg)) (g_o3 : n0 ≤ o3) :
    ∃ (T' : State) (h' : Heap) (locs' : List Loc), Stand p l e room_1 s m args below meth c T' locs' 1 12 ∧ T'.heap = h' ∧ Fr n0 locs' ∧ Wr h0 h' o3 ((7 : Int32)).toNatClampNeg (.int (own_edge i0 (7 : Int32))) ∧
      ∀ target, Steps p.tables e below (T'.setTop (mkF m 73 #[.val (.int i0), s1, s2, .val (.ref o3), s4, s5, s6, s7, s8, s9, s10, s11, s12, s13, s14, s15, s16] [])) target → Steps p.tables e below (T0.setTop (mkF m 63 #[.val (.int i0), s1, s2, .val (.ref o3), s4, s5, s6, s7, s8, s9, s10, s11, s12, s13, s14, s15, s16] [])) target := by
  obtain ⟨_, _, ⟨T4, L4, k4, n4⟩, -, X4, ⟨Lc4, hQ4, l4, y4, z4⟩, st4⟩ := Jvm.LawKit.callS X0 hx (y := (⟨"com/example/libpiecewise/libpiecewise/DfaRunPinLaw", "edge", "(II)I"⟩ : MethodName)) hown (mvT hZ (hw _ (List.mem_of_getElem? (i := 1) rfl))) (mvT hZ (hw _ (List.mem_of_getElem? (i := 2) rfl))) (mvT hZ (hw _ (List.mem_of_getElem? (i := 3) rfl))) (mvT hZ (hw _ (List.mem_of_getElem? (i := 4) rfl))) (by decide) (backOf (W := 2) (rm1 l Z a0 hw [] i0 (7 : Int32)  h0 n0 Z0) hZ (hw _ (List.mem_of_getElem? (i := 4) rfl)) (hw _ (List.mem_of_getElem? (i := 3) rfl)) (by decide) (by decide)) (g := (mkF m 69 #[.val (.int i0), s1, s2, .val (.ref o3), s4, s5, s6, s7, s8, s9, s10, s11, s12, s13, s14, s15, s16] [(.int (7 : Int32)), (.int i0), (.int (7 : Int32)), (.ref o3)])) rfl (by rw [hml]; rfl) (argsL := [(.int i0), (.int (7 : Int32))]) (rest := [(.int (7 : Int32)), (.ref o3)]) (lenOf pd_0_0 rfl) rfl (by show 2 * 0 + _ ≤ _; exact Nat.le_of_eq rfl) (hb hby at_69) (fun _ _ => ⟨rfl, e0, (by decide : 1 + 0 ≤ _), (by decide : 12 + 0 ≤ _)⟩)
  dsimp only [Pt.U, Pt.locs, Pt.cells, Pt.slots] at X4 l4 y4 z4 st4 hQ4
  subst l4 y4 z4
  obtain ⟨rfl, N4q, e4⟩ := hQ4      -- what it returned, that it wrote nothing old, and the rest of your Q1
  have N4 := Fr.app N0 N4q
  obtain ⟨T5, h5, X5, e5, W5, st5⟩ := stI X4 hx hZ e4 Ar_o3 (j := (7 : Int32)) hin72 (g := (mkF m 72 #[.val (.int i0), s1, s2, .val (.ref o3), s4, s5, s6, s7, s8, s9, s10, s11, s12, s13, s14, s15, s16] [(.int (own_edge i0 (7 : Int32))), (.int (7 : Int32)), (.ref o3)])) rfl rfl (hb hby at_72)
  have N5 := Fr.snoc X5 N4 g_o3
  refine ⟨T5, _, _, X5, e5, N5, W5, fun target kt => ?_⟩
  show Steps p.tables e below (T0.setTop (mkF m 63 #[.val (.int i0), s1, s2, .val (.ref o3), s4, s5, s6, s7, s8, s9, s10, s11, s12, s13, s14, s15, s16] [])) _
  refine XS.aloadN X0.here hx rfl (hb hby at_63) rfl rfl ?_
  show Steps p.tables e below (T0.setTop (mkF m 64 #[.val (.int i0), s1, s2, .val (.ref o3), s4, s5, s6, s7, s8, s9, s10, s11, s12, s13, s14, s15, s16] [(.ref o3)])) _
  refine XS.bipush X0.here hx rfl (hb hby at_64) ?_
  show Steps p.tables e below (T0.setTop (mkF m 66 #[.val (.int i0), s1, s2, .val (.ref o3), s4, s5, s6, s7, s8, s9, s10, s11, s12, s13, s14, s15, s16] [(.int (7 : Int32)), (.ref o3)])) _
  refine XS.iloadN X0.here hx rfl (hb hby at_66) rfl ?_
  show Steps p.tables e below (T0.setTop (mkF m 67 #[.val (.int i0), s1, s2, .val (.ref o3), s4, s5, s6, s7, s8, s9, s10, s11, s12, s13, s14, s15, s16] [(.int i0), (.int (7 : Int32)), (.ref o3)])) _
  refine XS.bipush X0.here hx rfl (hb hby at_67) ?_
  show Steps p.tables e below (T0.setTop (mkF m 69 #[.val (.int i0), s1, s2, .val (.ref o3), s4, s5, s6, s7, s8, s9, s10, s11, s12, s13, s14, s15, s16] [(.int (7 : Int32)), (.int i0), (.int (7 : Int32)), (.ref o3)])) _
  refine st4 _ ?_
  show Steps p.tables e below (T4.setTop (mkF m 72 #[.val (.int i0), s1, s2, .val (.ref o3), s4, s5, s6, s7, s8, s9, s10, s11, s12, s13, s14, s15, s16] [(.int (own_edge i0 (7 : Int32))), (.int (7 : Int32)), (.ref o3)])) _
  refine st5 _ ?_
  exact kt

theorem fill_7 {p : Program} {l : Launch} {e : Env} {s : State} {m : MethodId} {args : Array Value} {below : List Frame} {meth : Method} {c : Code} {T0 : State} {locs : List Loc} {Z : State} {a0 : Array Value} {h0 : Heap} (t : Int32) (ta : Addr) (s1 s2 s4 s5 s6 s7 s8 s9 s10 s11 s12 s13 s14 s15 s16 : Slot) (n0 : Nat) (H0 : Heap)
    (X0 : Stand p l e room_1 s m args below meth c T0 locs 1 12) (hx : p.tables.exec = Jvm.exec) (hZ : Z.Warmed39 s.vm) (hw : ∀ d ∈ tables_1, d.before a0 Z = true) (hby : c.code = code) (hml : c.maxLocals = 17) (hown : s.vm.findClass "com/example/libpiecewise/libpiecewise/DfaRunPinLaw" = some m.cls) (e0 : T0.heap = h0) (Z0 : n0 ≤ h0.size) (N0 : Fr n0 locs) (gta : n0 ≤ ta) (hta : H0.size ≤ ta) (K0 : Keep H0 h0 []) (V : own_arr Z h0 ta 12 (fun j => if j < 7 then own_edge t (Int32.ofNat j) else 0)) :
    ∃ (T' : State) (h' : Heap) (locs' : List Loc), Stand p l e room_1 s m args below meth c T' locs' 1 12 ∧ T'.heap = h' ∧ Fr n0 locs' ∧ n0 ≤ h'.size ∧ Keep H0 h' [] ∧ own_arr Z h' ta 12 (fun j => if j < 8 then own_edge t (Int32.ofNat j) else 0) ∧
      ∀ target, Steps p.tables e below (T'.setTop (mkF m 73 #[.val (.int t), s1, s2, .val (.ref ta), s4, s5, s6, s7, s8, s9, s10, s11, s12, s13, s14, s15, s16] [])) target → Steps p.tables e below (T0.setTop (mkF m 63 #[.val (.int t), s1, s2, .val (.ref ta), s4, s5, s6, s7, s8, s9, s10, s11, s12, s13, s14, s15, s16] [])) target := by
  have V' := V
  obtain ⟨cl, Ar, S, H⟩ := V'
  obtain ⟨T', h', L', X', e', N', W', st⟩ := tA_7 t s1 s2 ta s4 s5 s6 s7 s8 s9 s10 s11 s12 s13 s14 s15 s16 cl n0 X0 hx hZ hw hby hml hown e0 Z0 N0 Ar (own_in (j := 7) S (by decide) (by decide)) gta
  refine ⟨T', h', L', X', e', N', by rw [W'.size]; exact Z0, K0.wr W' (Or.inr hta), ?_, st⟩
  refine (own_arr.set (j := 7) Ar S H W' (by decide) (by decide)).congr fun j hj => ?_
  by_cases e : j = 7
  · subst e
    rw [if_pos rfl, if_pos (by omega)]; rfl
  · rw [if_neg e]
    by_cases e2 : j < 7
    · rw [if_pos e2, if_pos (by omega)]
    · rw [if_neg e2, if_neg (by omega)]
set_option maxRecDepth 65536 in
set_option maxHeartbeats 40000000 in
theorem tA_8 {p : Program} {l : Launch} {e : Env} {s : State} {m : MethodId} {args : Array Value} {below : List Frame} {meth : Method} {c : Code} {T0 : State} {locs : List Loc} {Z : State} {a0 : Array Value} {h0 : Heap} (i0 : Int32) (s1 : Slot) (s2 : Slot) (o3 : Addr) (s4 : Slot) (s5 : Slot) (s6 : Slot) (s7 : Slot) (s8 : Slot) (s9 : Slot) (s10 : Slot) (s11 : Slot) (s12 : Slot) (s13 : Slot) (s14 : Slot) (s15 : Slot) (s16 : Slot) (cl_o3 : Cell) (n0 : Nat)
    (X0 : Stand p l e room_1 s m args below meth c T0 locs 1 12) (hx : p.tables.exec = Jvm.exec) (hZ : Z.Warmed39 s.vm) (hw : ∀ d ∈ tables_1, d.before a0 Z = true) (hby : c.code = code) (hml : c.maxLocals = 17) (hown : s.vm.findClass "com/example/libpiecewise/libpiecewise/DfaRunPinLaw" = some m.cls) (e0 : T0.heap = h0) (Z0 : n0 ≤ h0.size) (N0 : Fr n0 locs) (Ar_o3 : Arr Z h0 o3 cl_o3 .int) (hin82 : ¬ ((8 : Int32) < 0 ∨ cl_o3.slots.size ≤ ((8 : Int32)).toNatClampNeg)) (g_o3 : n0 ≤ o3) :
    ∃ (T' : State) (h' : Heap) (locs' : List Loc), Stand p l e room_1 s m args below meth c T' locs' 1 12 ∧ T'.heap = h' ∧ Fr n0 locs' ∧ Wr h0 h' o3 ((8 : Int32)).toNatClampNeg (.int (own_edge i0 (8 : Int32))) ∧
      ∀ target, Steps p.tables e below (T'.setTop (mkF m 83 #[.val (.int i0), s1, s2, .val (.ref o3), s4, s5, s6, s7, s8, s9, s10, s11, s12, s13, s14, s15, s16] [])) target → Steps p.tables e below (T0.setTop (mkF m 73 #[.val (.int i0), s1, s2, .val (.ref o3), s4, s5, s6, s7, s8, s9, s10, s11, s12, s13, s14, s15, s16] [])) target := by
  obtain ⟨_, _, ⟨T4, L4, k4, n4⟩, -, X4, ⟨Lc4, hQ4, l4, y4, z4⟩, st4⟩ := Jvm.LawKit.callS X0 hx (y := (⟨"com/example/libpiecewise/libpiecewise/DfaRunPinLaw", "edge", "(II)I"⟩ : MethodName)) hown (mvT hZ (hw _ (List.mem_of_getElem? (i := 1) rfl))) (mvT hZ (hw _ (List.mem_of_getElem? (i := 2) rfl))) (mvT hZ (hw _ (List.mem_of_getElem? (i := 3) rfl))) (mvT hZ (hw _ (List.mem_of_getElem? (i := 4) rfl))) (by decide) (backOf (W := 2) (rm1 l Z a0 hw [] i0 (8 : Int32)  h0 n0 Z0) hZ (hw _ (List.mem_of_getElem? (i := 4) rfl)) (hw _ (List.mem_of_getElem? (i := 3) rfl)) (by decide) (by decide)) (g := (mkF m 79 #[.val (.int i0), s1, s2, .val (.ref o3), s4, s5, s6, s7, s8, s9, s10, s11, s12, s13, s14, s15, s16] [(.int (8 : Int32)), (.int i0), (.int (8 : Int32)), (.ref o3)])) rfl (by rw [hml]; rfl) (argsL := [(.int i0), (.int (8 : Int32))]) (rest := [(.int (8 : Int32)), (.ref o3)]) (lenOf pd_0_0 rfl) rfl (by show 2 * 0 + _ ≤ _; exact Nat.le_of_eq rfl) (hb hby at_79) (fun _ _ => ⟨rfl, e0, (by decide : 1 + 0 ≤ _), (by decide : 12 + 0 ≤ _)⟩)
  dsimp only [Pt.U, Pt.locs, Pt.cells, Pt.slots] at X4 l4 y4 z4 st4 hQ4
  subst l4 y4 z4
  obtain ⟨rfl, N4q, e4⟩ := hQ4      -- what it returned, that it wrote nothing old, and the rest of your Q1
  have N4 := Fr.app N0 N4q
  obtain ⟨T5, h5, X5, e5, W5, st5⟩ := stI X4 hx hZ e4 Ar_o3 (j := (8 : Int32)) hin82 (g := (mkF m 82 #[.val (.int i0), s1, s2, .val (.ref o3), s4, s5, s6, s7, s8, s9, s10, s11, s12, s13, s14, s15, s16] [(.int (own_edge i0 (8 : Int32))), (.int (8 : Int32)), (.ref o3)])) rfl rfl (hb hby at_82)
  have N5 := Fr.snoc X5 N4 g_o3
  refine ⟨T5, _, _, X5, e5, N5, W5, fun target kt => ?_⟩
  show Steps p.tables e below (T0.setTop (mkF m 73 #[.val (.int i0), s1, s2, .val (.ref o3), s4, s5, s6, s7, s8, s9, s10, s11, s12, s13, s14, s15, s16] [])) _
  refine XS.aloadN X0.here hx rfl (hb hby at_73) rfl rfl ?_
  show Steps p.tables e below (T0.setTop (mkF m 74 #[.val (.int i0), s1, s2, .val (.ref o3), s4, s5, s6, s7, s8, s9, s10, s11, s12, s13, s14, s15, s16] [(.ref o3)])) _
  refine XS.bipush X0.here hx rfl (hb hby at_74) ?_
  show Steps p.tables e below (T0.setTop (mkF m 76 #[.val (.int i0), s1, s2, .val (.ref o3), s4, s5, s6, s7, s8, s9, s10, s11, s12, s13, s14, s15, s16] [(.int (8 : Int32)), (.ref o3)])) _
  refine XS.iloadN X0.here hx rfl (hb hby at_76) rfl ?_
  show Steps p.tables e below (T0.setTop (mkF m 77 #[.val (.int i0), s1, s2, .val (.ref o3), s4, s5, s6, s7, s8, s9, s10, s11, s12, s13, s14, s15, s16] [(.int i0), (.int (8 : Int32)), (.ref o3)])) _
  refine XS.bipush X0.here hx rfl (hb hby at_77) ?_
  show Steps p.tables e below (T0.setTop (mkF m 79 #[.val (.int i0), s1, s2, .val (.ref o3), s4, s5, s6, s7, s8, s9, s10, s11, s12, s13, s14, s15, s16] [(.int (8 : Int32)), (.int i0), (.int (8 : Int32)), (.ref o3)])) _
  refine st4 _ ?_
  show Steps p.tables e below (T4.setTop (mkF m 82 #[.val (.int i0), s1, s2, .val (.ref o3), s4, s5, s6, s7, s8, s9, s10, s11, s12, s13, s14, s15, s16] [(.int (own_edge i0 (8 : Int32))), (.int (8 : Int32)), (.ref o3)])) _
  refine st5 _ ?_
  exact kt

theorem fill_8 {p : Program} {l : Launch} {e : Env} {s : State} {m : MethodId} {args : Array Value} {below : List Frame} {meth : Method} {c : Code} {T0 : State} {locs : List Loc} {Z : State} {a0 : Array Value} {h0 : Heap} (t : Int32) (ta : Addr) (s1 s2 s4 s5 s6 s7 s8 s9 s10 s11 s12 s13 s14 s15 s16 : Slot) (n0 : Nat) (H0 : Heap)
    (X0 : Stand p l e room_1 s m args below meth c T0 locs 1 12) (hx : p.tables.exec = Jvm.exec) (hZ : Z.Warmed39 s.vm) (hw : ∀ d ∈ tables_1, d.before a0 Z = true) (hby : c.code = code) (hml : c.maxLocals = 17) (hown : s.vm.findClass "com/example/libpiecewise/libpiecewise/DfaRunPinLaw" = some m.cls) (e0 : T0.heap = h0) (Z0 : n0 ≤ h0.size) (N0 : Fr n0 locs) (gta : n0 ≤ ta) (hta : H0.size ≤ ta) (K0 : Keep H0 h0 []) (V : own_arr Z h0 ta 12 (fun j => if j < 8 then own_edge t (Int32.ofNat j) else 0)) :
    ∃ (T' : State) (h' : Heap) (locs' : List Loc), Stand p l e room_1 s m args below meth c T' locs' 1 12 ∧ T'.heap = h' ∧ Fr n0 locs' ∧ n0 ≤ h'.size ∧ Keep H0 h' [] ∧ own_arr Z h' ta 12 (fun j => if j < 9 then own_edge t (Int32.ofNat j) else 0) ∧
      ∀ target, Steps p.tables e below (T'.setTop (mkF m 83 #[.val (.int t), s1, s2, .val (.ref ta), s4, s5, s6, s7, s8, s9, s10, s11, s12, s13, s14, s15, s16] [])) target → Steps p.tables e below (T0.setTop (mkF m 73 #[.val (.int t), s1, s2, .val (.ref ta), s4, s5, s6, s7, s8, s9, s10, s11, s12, s13, s14, s15, s16] [])) target := by
  have V' := V
  obtain ⟨cl, Ar, S, H⟩ := V'
  obtain ⟨T', h', L', X', e', N', W', st⟩ := tA_8 t s1 s2 ta s4 s5 s6 s7 s8 s9 s10 s11 s12 s13 s14 s15 s16 cl n0 X0 hx hZ hw hby hml hown e0 Z0 N0 Ar (own_in (j := 8) S (by decide) (by decide)) gta
  refine ⟨T', h', L', X', e', N', by rw [W'.size]; exact Z0, K0.wr W' (Or.inr hta), ?_, st⟩
  refine (own_arr.set (j := 8) Ar S H W' (by decide) (by decide)).congr fun j hj => ?_
  by_cases e : j = 8
  · subst e
    rw [if_pos rfl, if_pos (by omega)]; rfl
  · rw [if_neg e]
    by_cases e2 : j < 8
    · rw [if_pos e2, if_pos (by omega)]
    · rw [if_neg e2, if_neg (by omega)]
set_option maxRecDepth 65536 in
set_option maxHeartbeats 40000000 in
theorem tA_9 {p : Program} {l : Launch} {e : Env} {s : State} {m : MethodId} {args : Array Value} {below : List Frame} {meth : Method} {c : Code} {T0 : State} {locs : List Loc} {Z : State} {a0 : Array Value} {h0 : Heap} (i0 : Int32) (s1 : Slot) (s2 : Slot) (o3 : Addr) (s4 : Slot) (s5 : Slot) (s6 : Slot) (s7 : Slot) (s8 : Slot) (s9 : Slot) (s10 : Slot) (s11 : Slot) (s12 : Slot) (s13 : Slot) (s14 : Slot) (s15 : Slot) (s16 : Slot) (cl_o3 : Cell) (n0 : Nat)
    (X0 : Stand p l e room_1 s m args below meth c T0 locs 1 12) (hx : p.tables.exec = Jvm.exec) (hZ : Z.Warmed39 s.vm) (hw : ∀ d ∈ tables_1, d.before a0 Z = true) (hby : c.code = code) (hml : c.maxLocals = 17) (hown : s.vm.findClass "com/example/libpiecewise/libpiecewise/DfaRunPinLaw" = some m.cls) (e0 : T0.heap = h0) (Z0 : n0 ≤ h0.size) (N0 : Fr n0 locs) (Ar_o3 : Arr Z h0 o3 cl_o3 .int) (hin92 : ¬ ((9 : Int32) < 0 ∨ cl_o3.slots.size ≤ ((9 : Int32)).toNatClampNeg)) (g_o3 : n0 ≤ o3) :
    ∃ (T' : State) (h' : Heap) (locs' : List Loc), Stand p l e room_1 s m args below meth c T' locs' 1 12 ∧ T'.heap = h' ∧ Fr n0 locs' ∧ Wr h0 h' o3 ((9 : Int32)).toNatClampNeg (.int (own_edge i0 (9 : Int32))) ∧
      ∀ target, Steps p.tables e below (T'.setTop (mkF m 93 #[.val (.int i0), s1, s2, .val (.ref o3), s4, s5, s6, s7, s8, s9, s10, s11, s12, s13, s14, s15, s16] [])) target → Steps p.tables e below (T0.setTop (mkF m 83 #[.val (.int i0), s1, s2, .val (.ref o3), s4, s5, s6, s7, s8, s9, s10, s11, s12, s13, s14, s15, s16] [])) target := by
  obtain ⟨_, _, ⟨T4, L4, k4, n4⟩, -, X4, ⟨Lc4, hQ4, l4, y4, z4⟩, st4⟩ := Jvm.LawKit.callS X0 hx (y := (⟨"com/example/libpiecewise/libpiecewise/DfaRunPinLaw", "edge", "(II)I"⟩ : MethodName)) hown (mvT hZ (hw _ (List.mem_of_getElem? (i := 1) rfl))) (mvT hZ (hw _ (List.mem_of_getElem? (i := 2) rfl))) (mvT hZ (hw _ (List.mem_of_getElem? (i := 3) rfl))) (mvT hZ (hw _ (List.mem_of_getElem? (i := 4) rfl))) (by decide) (backOf (W := 2) (rm1 l Z a0 hw [] i0 (9 : Int32)  h0 n0 Z0) hZ (hw _ (List.mem_of_getElem? (i := 4) rfl)) (hw _ (List.mem_of_getElem? (i := 3) rfl)) (by decide) (by decide)) (g := (mkF m 89 #[.val (.int i0), s1, s2, .val (.ref o3), s4, s5, s6, s7, s8, s9, s10, s11, s12, s13, s14, s15, s16] [(.int (9 : Int32)), (.int i0), (.int (9 : Int32)), (.ref o3)])) rfl (by rw [hml]; rfl) (argsL := [(.int i0), (.int (9 : Int32))]) (rest := [(.int (9 : Int32)), (.ref o3)]) (lenOf pd_0_0 rfl) rfl (by show 2 * 0 + _ ≤ _; exact Nat.le_of_eq rfl) (hb hby at_89) (fun _ _ => ⟨rfl, e0, (by decide : 1 + 0 ≤ _), (by decide : 12 + 0 ≤ _)⟩)
  dsimp only [Pt.U, Pt.locs, Pt.cells, Pt.slots] at X4 l4 y4 z4 st4 hQ4
  subst l4 y4 z4
  obtain ⟨rfl, N4q, e4⟩ := hQ4      -- what it returned, that it wrote nothing old, and the rest of your Q1
  have N4 := Fr.app N0 N4q
  obtain ⟨T5, h5, X5, e5, W5, st5⟩ := stI X4 hx hZ e4 Ar_o3 (j := (9 : Int32)) hin92 (g := (mkF m 92 #[.val (.int i0), s1, s2, .val (.ref o3), s4, s5, s6, s7, s8, s9, s10, s11, s12, s13, s14, s15, s16] [(.int (own_edge i0 (9 : Int32))), (.int (9 : Int32)), (.ref o3)])) rfl rfl (hb hby at_92)
  have N5 := Fr.snoc X5 N4 g_o3
  refine ⟨T5, _, _, X5, e5, N5, W5, fun target kt => ?_⟩
  show Steps p.tables e below (T0.setTop (mkF m 83 #[.val (.int i0), s1, s2, .val (.ref o3), s4, s5, s6, s7, s8, s9, s10, s11, s12, s13, s14, s15, s16] [])) _
  refine XS.aloadN X0.here hx rfl (hb hby at_83) rfl rfl ?_
  show Steps p.tables e below (T0.setTop (mkF m 84 #[.val (.int i0), s1, s2, .val (.ref o3), s4, s5, s6, s7, s8, s9, s10, s11, s12, s13, s14, s15, s16] [(.ref o3)])) _
  refine XS.bipush X0.here hx rfl (hb hby at_84) ?_
  show Steps p.tables e below (T0.setTop (mkF m 86 #[.val (.int i0), s1, s2, .val (.ref o3), s4, s5, s6, s7, s8, s9, s10, s11, s12, s13, s14, s15, s16] [(.int (9 : Int32)), (.ref o3)])) _
  refine XS.iloadN X0.here hx rfl (hb hby at_86) rfl ?_
  show Steps p.tables e below (T0.setTop (mkF m 87 #[.val (.int i0), s1, s2, .val (.ref o3), s4, s5, s6, s7, s8, s9, s10, s11, s12, s13, s14, s15, s16] [(.int i0), (.int (9 : Int32)), (.ref o3)])) _
  refine XS.bipush X0.here hx rfl (hb hby at_87) ?_
  show Steps p.tables e below (T0.setTop (mkF m 89 #[.val (.int i0), s1, s2, .val (.ref o3), s4, s5, s6, s7, s8, s9, s10, s11, s12, s13, s14, s15, s16] [(.int (9 : Int32)), (.int i0), (.int (9 : Int32)), (.ref o3)])) _
  refine st4 _ ?_
  show Steps p.tables e below (T4.setTop (mkF m 92 #[.val (.int i0), s1, s2, .val (.ref o3), s4, s5, s6, s7, s8, s9, s10, s11, s12, s13, s14, s15, s16] [(.int (own_edge i0 (9 : Int32))), (.int (9 : Int32)), (.ref o3)])) _
  refine st5 _ ?_
  exact kt

theorem fill_9 {p : Program} {l : Launch} {e : Env} {s : State} {m : MethodId} {args : Array Value} {below : List Frame} {meth : Method} {c : Code} {T0 : State} {locs : List Loc} {Z : State} {a0 : Array Value} {h0 : Heap} (t : Int32) (ta : Addr) (s1 s2 s4 s5 s6 s7 s8 s9 s10 s11 s12 s13 s14 s15 s16 : Slot) (n0 : Nat) (H0 : Heap)
    (X0 : Stand p l e room_1 s m args below meth c T0 locs 1 12) (hx : p.tables.exec = Jvm.exec) (hZ : Z.Warmed39 s.vm) (hw : ∀ d ∈ tables_1, d.before a0 Z = true) (hby : c.code = code) (hml : c.maxLocals = 17) (hown : s.vm.findClass "com/example/libpiecewise/libpiecewise/DfaRunPinLaw" = some m.cls) (e0 : T0.heap = h0) (Z0 : n0 ≤ h0.size) (N0 : Fr n0 locs) (gta : n0 ≤ ta) (hta : H0.size ≤ ta) (K0 : Keep H0 h0 []) (V : own_arr Z h0 ta 12 (fun j => if j < 9 then own_edge t (Int32.ofNat j) else 0)) :
    ∃ (T' : State) (h' : Heap) (locs' : List Loc), Stand p l e room_1 s m args below meth c T' locs' 1 12 ∧ T'.heap = h' ∧ Fr n0 locs' ∧ n0 ≤ h'.size ∧ Keep H0 h' [] ∧ own_arr Z h' ta 12 (fun j => if j < 10 then own_edge t (Int32.ofNat j) else 0) ∧
      ∀ target, Steps p.tables e below (T'.setTop (mkF m 93 #[.val (.int t), s1, s2, .val (.ref ta), s4, s5, s6, s7, s8, s9, s10, s11, s12, s13, s14, s15, s16] [])) target → Steps p.tables e below (T0.setTop (mkF m 83 #[.val (.int t), s1, s2, .val (.ref ta), s4, s5, s6, s7, s8, s9, s10, s11, s12, s13, s14, s15, s16] [])) target := by
  have V' := V
  obtain ⟨cl, Ar, S, H⟩ := V'
  obtain ⟨T', h', L', X', e', N', W', st⟩ := tA_9 t s1 s2 ta s4 s5 s6 s7 s8 s9 s10 s11 s12 s13 s14 s15 s16 cl n0 X0 hx hZ hw hby hml hown e0 Z0 N0 Ar (own_in (j := 9) S (by decide) (by decide)) gta
  refine ⟨T', h', L', X', e', N', by rw [W'.size]; exact Z0, K0.wr W' (Or.inr hta), ?_, st⟩
  refine (own_arr.set (j := 9) Ar S H W' (by decide) (by decide)).congr fun j hj => ?_
  by_cases e : j = 9
  · subst e
    rw [if_pos rfl, if_pos (by omega)]; rfl
  · rw [if_neg e]
    by_cases e2 : j < 9
    · rw [if_pos e2, if_pos (by omega)]
    · rw [if_neg e2, if_neg (by omega)]
set_option maxRecDepth 65536 in
set_option maxHeartbeats 40000000 in
theorem tA_10 {p : Program} {l : Launch} {e : Env} {s : State} {m : MethodId} {args : Array Value} {below : List Frame} {meth : Method} {c : Code} {T0 : State} {locs : List Loc} {Z : State} {a0 : Array Value} {h0 : Heap} (i0 : Int32) (s1 : Slot) (s2 : Slot) (o3 : Addr) (s4 : Slot) (s5 : Slot) (s6 : Slot) (s7 : Slot) (s8 : Slot) (s9 : Slot) (s10 : Slot) (s11 : Slot) (s12 : Slot) (s13 : Slot) (s14 : Slot) (s15 : Slot) (s16 : Slot) (cl_o3 : Cell) (n0 : Nat)
    (X0 : Stand p l e room_1 s m args below meth c T0 locs 1 12) (hx : p.tables.exec = Jvm.exec) (hZ : Z.Warmed39 s.vm) (hw : ∀ d ∈ tables_1, d.before a0 Z = true) (hby : c.code = code) (hml : c.maxLocals = 17) (hown : s.vm.findClass "com/example/libpiecewise/libpiecewise/DfaRunPinLaw" = some m.cls) (e0 : T0.heap = h0) (Z0 : n0 ≤ h0.size) (N0 : Fr n0 locs) (Ar_o3 : Arr Z h0 o3 cl_o3 .int) (hin102 : ¬ ((10 : Int32) < 0 ∨ cl_o3.slots.size ≤ ((10 : Int32)).toNatClampNeg)) (g_o3 : n0 ≤ o3) :
    ∃ (T' : State) (h' : Heap) (locs' : List Loc), Stand p l e room_1 s m args below meth c T' locs' 1 12 ∧ T'.heap = h' ∧ Fr n0 locs' ∧ Wr h0 h' o3 ((10 : Int32)).toNatClampNeg (.int (own_edge i0 (10 : Int32))) ∧
      ∀ target, Steps p.tables e below (T'.setTop (mkF m 103 #[.val (.int i0), s1, s2, .val (.ref o3), s4, s5, s6, s7, s8, s9, s10, s11, s12, s13, s14, s15, s16] [])) target → Steps p.tables e below (T0.setTop (mkF m 93 #[.val (.int i0), s1, s2, .val (.ref o3), s4, s5, s6, s7, s8, s9, s10, s11, s12, s13, s14, s15, s16] [])) target := by
  obtain ⟨_, _, ⟨T4, L4, k4, n4⟩, -, X4, ⟨Lc4, hQ4, l4, y4, z4⟩, st4⟩ := Jvm.LawKit.callS X0 hx (y := (⟨"com/example/libpiecewise/libpiecewise/DfaRunPinLaw", "edge", "(II)I"⟩ : MethodName)) hown (mvT hZ (hw _ (List.mem_of_getElem? (i := 1) rfl))) (mvT hZ (hw _ (List.mem_of_getElem? (i := 2) rfl))) (mvT hZ (hw _ (List.mem_of_getElem? (i := 3) rfl))) (mvT hZ (hw _ (List.mem_of_getElem? (i := 4) rfl))) (by decide) (backOf (W := 2) (rm1 l Z a0 hw [] i0 (10 : Int32)  h0 n0 Z0) hZ (hw _ (List.mem_of_getElem? (i := 4) rfl)) (hw _ (List.mem_of_getElem? (i := 3) rfl)) (by decide) (by decide)) (g := (mkF m 99 #[.val (.int i0), s1, s2, .val (.ref o3), s4, s5, s6, s7, s8, s9, s10, s11, s12, s13, s14, s15, s16] [(.int (10 : Int32)), (.int i0), (.int (10 : Int32)), (.ref o3)])) rfl (by rw [hml]; rfl) (argsL := [(.int i0), (.int (10 : Int32))]) (rest := [(.int (10 : Int32)), (.ref o3)]) (lenOf pd_0_0 rfl) rfl (by show 2 * 0 + _ ≤ _; exact Nat.le_of_eq rfl) (hb hby at_99) (fun _ _ => ⟨rfl, e0, (by decide : 1 + 0 ≤ _), (by decide : 12 + 0 ≤ _)⟩)
  dsimp only [Pt.U, Pt.locs, Pt.cells, Pt.slots] at X4 l4 y4 z4 st4 hQ4
  subst l4 y4 z4
  obtain ⟨rfl, N4q, e4⟩ := hQ4      -- what it returned, that it wrote nothing old, and the rest of your Q1
  have N4 := Fr.app N0 N4q
  obtain ⟨T5, h5, X5, e5, W5, st5⟩ := stI X4 hx hZ e4 Ar_o3 (j := (10 : Int32)) hin102 (g := (mkF m 102 #[.val (.int i0), s1, s2, .val (.ref o3), s4, s5, s6, s7, s8, s9, s10, s11, s12, s13, s14, s15, s16] [(.int (own_edge i0 (10 : Int32))), (.int (10 : Int32)), (.ref o3)])) rfl rfl (hb hby at_102)
  have N5 := Fr.snoc X5 N4 g_o3
  refine ⟨T5, _, _, X5, e5, N5, W5, fun target kt => ?_⟩
  show Steps p.tables e below (T0.setTop (mkF m 93 #[.val (.int i0), s1, s2, .val (.ref o3), s4, s5, s6, s7, s8, s9, s10, s11, s12, s13, s14, s15, s16] [])) _
  refine XS.aloadN X0.here hx rfl (hb hby at_93) rfl rfl ?_
  show Steps p.tables e below (T0.setTop (mkF m 94 #[.val (.int i0), s1, s2, .val (.ref o3), s4, s5, s6, s7, s8, s9, s10, s11, s12, s13, s14, s15, s16] [(.ref o3)])) _
  refine XS.bipush X0.here hx rfl (hb hby at_94) ?_
  show Steps p.tables e below (T0.setTop (mkF m 96 #[.val (.int i0), s1, s2, .val (.ref o3), s4, s5, s6, s7, s8, s9, s10, s11, s12, s13, s14, s15, s16] [(.int (10 : Int32)), (.ref o3)])) _
  refine XS.iloadN X0.here hx rfl (hb hby at_96) rfl ?_
  show Steps p.tables e below (T0.setTop (mkF m 97 #[.val (.int i0), s1, s2, .val (.ref o3), s4, s5, s6, s7, s8, s9, s10, s11, s12, s13, s14, s15, s16] [(.int i0), (.int (10 : Int32)), (.ref o3)])) _
  refine XS.bipush X0.here hx rfl (hb hby at_97) ?_
  show Steps p.tables e below (T0.setTop (mkF m 99 #[.val (.int i0), s1, s2, .val (.ref o3), s4, s5, s6, s7, s8, s9, s10, s11, s12, s13, s14, s15, s16] [(.int (10 : Int32)), (.int i0), (.int (10 : Int32)), (.ref o3)])) _
  refine st4 _ ?_
  show Steps p.tables e below (T4.setTop (mkF m 102 #[.val (.int i0), s1, s2, .val (.ref o3), s4, s5, s6, s7, s8, s9, s10, s11, s12, s13, s14, s15, s16] [(.int (own_edge i0 (10 : Int32))), (.int (10 : Int32)), (.ref o3)])) _
  refine st5 _ ?_
  exact kt

theorem fill_10 {p : Program} {l : Launch} {e : Env} {s : State} {m : MethodId} {args : Array Value} {below : List Frame} {meth : Method} {c : Code} {T0 : State} {locs : List Loc} {Z : State} {a0 : Array Value} {h0 : Heap} (t : Int32) (ta : Addr) (s1 s2 s4 s5 s6 s7 s8 s9 s10 s11 s12 s13 s14 s15 s16 : Slot) (n0 : Nat) (H0 : Heap)
    (X0 : Stand p l e room_1 s m args below meth c T0 locs 1 12) (hx : p.tables.exec = Jvm.exec) (hZ : Z.Warmed39 s.vm) (hw : ∀ d ∈ tables_1, d.before a0 Z = true) (hby : c.code = code) (hml : c.maxLocals = 17) (hown : s.vm.findClass "com/example/libpiecewise/libpiecewise/DfaRunPinLaw" = some m.cls) (e0 : T0.heap = h0) (Z0 : n0 ≤ h0.size) (N0 : Fr n0 locs) (gta : n0 ≤ ta) (hta : H0.size ≤ ta) (K0 : Keep H0 h0 []) (V : own_arr Z h0 ta 12 (fun j => if j < 10 then own_edge t (Int32.ofNat j) else 0)) :
    ∃ (T' : State) (h' : Heap) (locs' : List Loc), Stand p l e room_1 s m args below meth c T' locs' 1 12 ∧ T'.heap = h' ∧ Fr n0 locs' ∧ n0 ≤ h'.size ∧ Keep H0 h' [] ∧ own_arr Z h' ta 12 (fun j => if j < 11 then own_edge t (Int32.ofNat j) else 0) ∧
      ∀ target, Steps p.tables e below (T'.setTop (mkF m 103 #[.val (.int t), s1, s2, .val (.ref ta), s4, s5, s6, s7, s8, s9, s10, s11, s12, s13, s14, s15, s16] [])) target → Steps p.tables e below (T0.setTop (mkF m 93 #[.val (.int t), s1, s2, .val (.ref ta), s4, s5, s6, s7, s8, s9, s10, s11, s12, s13, s14, s15, s16] [])) target := by
  have V' := V
  obtain ⟨cl, Ar, S, H⟩ := V'
  obtain ⟨T', h', L', X', e', N', W', st⟩ := tA_10 t s1 s2 ta s4 s5 s6 s7 s8 s9 s10 s11 s12 s13 s14 s15 s16 cl n0 X0 hx hZ hw hby hml hown e0 Z0 N0 Ar (own_in (j := 10) S (by decide) (by decide)) gta
  refine ⟨T', h', L', X', e', N', by rw [W'.size]; exact Z0, K0.wr W' (Or.inr hta), ?_, st⟩
  refine (own_arr.set (j := 10) Ar S H W' (by decide) (by decide)).congr fun j hj => ?_
  by_cases e : j = 10
  · subst e
    rw [if_pos rfl, if_pos (by omega)]; rfl
  · rw [if_neg e]
    by_cases e2 : j < 10
    · rw [if_pos e2, if_pos (by omega)]
    · rw [if_neg e2, if_neg (by omega)]
set_option maxRecDepth 65536 in
set_option maxHeartbeats 40000000 in
theorem tA_11 {p : Program} {l : Launch} {e : Env} {s : State} {m : MethodId} {args : Array Value} {below : List Frame} {meth : Method} {c : Code} {T0 : State} {locs : List Loc} {Z : State} {a0 : Array Value} {h0 : Heap} (i0 : Int32) (s1 : Slot) (s2 : Slot) (o3 : Addr) (s4 : Slot) (s5 : Slot) (s6 : Slot) (s7 : Slot) (s8 : Slot) (s9 : Slot) (s10 : Slot) (s11 : Slot) (s12 : Slot) (s13 : Slot) (s14 : Slot) (s15 : Slot) (s16 : Slot) (cl_o3 : Cell) (n0 : Nat)
    (X0 : Stand p l e room_1 s m args below meth c T0 locs 1 12) (hx : p.tables.exec = Jvm.exec) (hZ : Z.Warmed39 s.vm) (hw : ∀ d ∈ tables_1, d.before a0 Z = true) (hby : c.code = code) (hml : c.maxLocals = 17) (hown : s.vm.findClass "com/example/libpiecewise/libpiecewise/DfaRunPinLaw" = some m.cls) (e0 : T0.heap = h0) (Z0 : n0 ≤ h0.size) (N0 : Fr n0 locs) (Ar_o3 : Arr Z h0 o3 cl_o3 .int) (hin112 : ¬ ((11 : Int32) < 0 ∨ cl_o3.slots.size ≤ ((11 : Int32)).toNatClampNeg)) (g_o3 : n0 ≤ o3) :
    ∃ (T' : State) (h' : Heap) (locs' : List Loc), Stand p l e room_1 s m args below meth c T' locs' 1 12 ∧ T'.heap = h' ∧ Fr n0 locs' ∧ Wr h0 h' o3 ((11 : Int32)).toNatClampNeg (.int (own_edge i0 (11 : Int32))) ∧
      ∀ target, Steps p.tables e below (T'.setTop (mkF m 113 #[.val (.int i0), s1, s2, .val (.ref o3), s4, s5, s6, s7, s8, s9, s10, s11, s12, s13, s14, s15, s16] [])) target → Steps p.tables e below (T0.setTop (mkF m 103 #[.val (.int i0), s1, s2, .val (.ref o3), s4, s5, s6, s7, s8, s9, s10, s11, s12, s13, s14, s15, s16] [])) target := by
  obtain ⟨_, _, ⟨T4, L4, k4, n4⟩, -, X4, ⟨Lc4, hQ4, l4, y4, z4⟩, st4⟩ := Jvm.LawKit.callS X0 hx (y := (⟨"com/example/libpiecewise/libpiecewise/DfaRunPinLaw", "edge", "(II)I"⟩ : MethodName)) hown (mvT hZ (hw _ (List.mem_of_getElem? (i := 1) rfl))) (mvT hZ (hw _ (List.mem_of_getElem? (i := 2) rfl))) (mvT hZ (hw _ (List.mem_of_getElem? (i := 3) rfl))) (mvT hZ (hw _ (List.mem_of_getElem? (i := 4) rfl))) (by decide) (backOf (W := 2) (rm1 l Z a0 hw [] i0 (11 : Int32)  h0 n0 Z0) hZ (hw _ (List.mem_of_getElem? (i := 4) rfl)) (hw _ (List.mem_of_getElem? (i := 3) rfl)) (by decide) (by decide)) (g := (mkF m 109 #[.val (.int i0), s1, s2, .val (.ref o3), s4, s5, s6, s7, s8, s9, s10, s11, s12, s13, s14, s15, s16] [(.int (11 : Int32)), (.int i0), (.int (11 : Int32)), (.ref o3)])) rfl (by rw [hml]; rfl) (argsL := [(.int i0), (.int (11 : Int32))]) (rest := [(.int (11 : Int32)), (.ref o3)]) (lenOf pd_0_0 rfl) rfl (by show 2 * 0 + _ ≤ _; exact Nat.le_of_eq rfl) (hb hby at_109) (fun _ _ => ⟨rfl, e0, (by decide : 1 + 0 ≤ _), (by decide : 12 + 0 ≤ _)⟩)
  dsimp only [Pt.U, Pt.locs, Pt.cells, Pt.slots] at X4 l4 y4 z4 st4 hQ4
  subst l4 y4 z4
  obtain ⟨rfl, N4q, e4⟩ := hQ4      -- what it returned, that it wrote nothing old, and the rest of your Q1
  have N4 := Fr.app N0 N4q
  obtain ⟨T5, h5, X5, e5, W5, st5⟩ := stI X4 hx hZ e4 Ar_o3 (j := (11 : Int32)) hin112 (g := (mkF m 112 #[.val (.int i0), s1, s2, .val (.ref o3), s4, s5, s6, s7, s8, s9, s10, s11, s12, s13, s14, s15, s16] [(.int (own_edge i0 (11 : Int32))), (.int (11 : Int32)), (.ref o3)])) rfl rfl (hb hby at_112)
  have N5 := Fr.snoc X5 N4 g_o3
  refine ⟨T5, _, _, X5, e5, N5, W5, fun target kt => ?_⟩
  show Steps p.tables e below (T0.setTop (mkF m 103 #[.val (.int i0), s1, s2, .val (.ref o3), s4, s5, s6, s7, s8, s9, s10, s11, s12, s13, s14, s15, s16] [])) _
  refine XS.aloadN X0.here hx rfl (hb hby at_103) rfl rfl ?_
  show Steps p.tables e below (T0.setTop (mkF m 104 #[.val (.int i0), s1, s2, .val (.ref o3), s4, s5, s6, s7, s8, s9, s10, s11, s12, s13, s14, s15, s16] [(.ref o3)])) _
  refine XS.bipush X0.here hx rfl (hb hby at_104) ?_
  show Steps p.tables e below (T0.setTop (mkF m 106 #[.val (.int i0), s1, s2, .val (.ref o3), s4, s5, s6, s7, s8, s9, s10, s11, s12, s13, s14, s15, s16] [(.int (11 : Int32)), (.ref o3)])) _
  refine XS.iloadN X0.here hx rfl (hb hby at_106) rfl ?_
  show Steps p.tables e below (T0.setTop (mkF m 107 #[.val (.int i0), s1, s2, .val (.ref o3), s4, s5, s6, s7, s8, s9, s10, s11, s12, s13, s14, s15, s16] [(.int i0), (.int (11 : Int32)), (.ref o3)])) _
  refine XS.bipush X0.here hx rfl (hb hby at_107) ?_
  show Steps p.tables e below (T0.setTop (mkF m 109 #[.val (.int i0), s1, s2, .val (.ref o3), s4, s5, s6, s7, s8, s9, s10, s11, s12, s13, s14, s15, s16] [(.int (11 : Int32)), (.int i0), (.int (11 : Int32)), (.ref o3)])) _
  refine st4 _ ?_
  show Steps p.tables e below (T4.setTop (mkF m 112 #[.val (.int i0), s1, s2, .val (.ref o3), s4, s5, s6, s7, s8, s9, s10, s11, s12, s13, s14, s15, s16] [(.int (own_edge i0 (11 : Int32))), (.int (11 : Int32)), (.ref o3)])) _
  refine st5 _ ?_
  exact kt

theorem fill_11 {p : Program} {l : Launch} {e : Env} {s : State} {m : MethodId} {args : Array Value} {below : List Frame} {meth : Method} {c : Code} {T0 : State} {locs : List Loc} {Z : State} {a0 : Array Value} {h0 : Heap} (t : Int32) (ta : Addr) (s1 s2 s4 s5 s6 s7 s8 s9 s10 s11 s12 s13 s14 s15 s16 : Slot) (n0 : Nat) (H0 : Heap)
    (X0 : Stand p l e room_1 s m args below meth c T0 locs 1 12) (hx : p.tables.exec = Jvm.exec) (hZ : Z.Warmed39 s.vm) (hw : ∀ d ∈ tables_1, d.before a0 Z = true) (hby : c.code = code) (hml : c.maxLocals = 17) (hown : s.vm.findClass "com/example/libpiecewise/libpiecewise/DfaRunPinLaw" = some m.cls) (e0 : T0.heap = h0) (Z0 : n0 ≤ h0.size) (N0 : Fr n0 locs) (gta : n0 ≤ ta) (hta : H0.size ≤ ta) (K0 : Keep H0 h0 []) (V : own_arr Z h0 ta 12 (fun j => if j < 11 then own_edge t (Int32.ofNat j) else 0)) :
    ∃ (T' : State) (h' : Heap) (locs' : List Loc), Stand p l e room_1 s m args below meth c T' locs' 1 12 ∧ T'.heap = h' ∧ Fr n0 locs' ∧ n0 ≤ h'.size ∧ Keep H0 h' [] ∧ own_arr Z h' ta 12 (fun j => if j < 12 then own_edge t (Int32.ofNat j) else 0) ∧
      ∀ target, Steps p.tables e below (T'.setTop (mkF m 113 #[.val (.int t), s1, s2, .val (.ref ta), s4, s5, s6, s7, s8, s9, s10, s11, s12, s13, s14, s15, s16] [])) target → Steps p.tables e below (T0.setTop (mkF m 103 #[.val (.int t), s1, s2, .val (.ref ta), s4, s5, s6, s7, s8, s9, s10, s11, s12, s13, s14, s15, s16] [])) target := by
  have V' := V
  obtain ⟨cl, Ar, S, H⟩ := V'
  obtain ⟨T', h', L', X', e', N', W', st⟩ := tA_11 t s1 s2 ta s4 s5 s6 s7 s8 s9 s10 s11 s12 s13 s14 s15 s16 cl n0 X0 hx hZ hw hby hml hown e0 Z0 N0 Ar (own_in (j := 11) S (by decide) (by decide)) gta
  refine ⟨T', h', L', X', e', N', by rw [W'.size]; exact Z0, K0.wr W' (Or.inr hta), ?_, st⟩
  refine (own_arr.set (j := 11) Ar S H W' (by decide) (by decide)).congr fun j hj => ?_
  by_cases e : j = 11
  · subst e
    rw [if_pos rfl, if_pos (by omega)]; rfl
  · rw [if_neg e]
    by_cases e2 : j < 11
    · rw [if_pos e2, if_pos (by omega)]
    · rw [if_neg e2, if_neg (by omega)]
theorem own_table {Z : State} {h : Heap} {a : Addr} {t : Int32} (V : own_arr Z h a 12 (fun j => if j < 12 then own_edge t (Int32.ofNat j) else 0)) : ∃ k, Arv Z h a k .int (12 : Int32) (own_edges t) (.int 0) := by
  obtain ⟨c, A, S, H⟩ := V
  have g : ∀ j, j < 12 → (own_edges t).getD j (.int 0) = .int (own_edge t (Int32.ofNat j)) := by
    intro j hj
    obtain rfl | rfl | rfl | rfl | rfl | rfl | rfl | rfl | rfl | rfl | rfl | rfl : j = 0 ∨ j = 1 ∨ j = 2 ∨ j = 3 ∨ j = 4 ∨ j = 5 ∨ j = 6 ∨ j = 7 ∨ j = 8 ∨ j = 9 ∨ j = 10 ∨ j = 11 := by omega
    all_goals rfl
  refine ⟨c.cls, c, A, rfl, S, by decide, fun j hj => ?_, fun j hj => ?_⟩
  · rw [S] at hj; rw [H j hj, g j hj]
    show some (Value.int (if j < 12 then own_edge t (Int32.ofNat j) else 0)) = _
    rw [if_pos hj]
  · rw [S] at hj; rw [g j hj]; rfl
set_option maxRecDepth 65536 in
set_option maxHeartbeats 40000000 in
theorem tn0_113_128 {p : Program} {l : Launch} {e : Env} {s : State} {m : MethodId} {args : Array Value} {below : List Frame} {meth : Method} {c : Code} {T0 : State} {locs : List Loc} {Z : State} {a0 : Array Value} {h0 : Heap} (s0 : Slot) (s1 : Slot) (s2 : Slot) (o3 : Addr) (s4 : Slot) (s5 : Slot) (s6 : Slot) (s7 : Slot) (s8 : Slot) (s9 : Slot) (s10 : Slot) (s11 : Slot) (s12 : Slot) (s13 : Slot) (s14 : Slot) (s15 : Slot) (s16 : Slot) (t : Int32) (kt : ClassId) (n0 : Nat)
    (X0 : Stand p l e room_1 s m args below meth c T0 locs 1 12) (hx : p.tables.exec = Jvm.exec) (hZ : Z.Warmed39 s.vm) (hw : ∀ d ∈ tables_1, d.before a0 Z = true) (hby : c.code = code) (hml : c.maxLocals = 17) (hown : s.vm.findClass "com/example/libpiecewise/libpiecewise/DfaRunPinLaw" = some m.cls) (e0 : T0.heap = h0) (Z0 : n0 ≤ h0.size) (N0 : Fr n0 locs) (V : Arv Z h0 o3 kt .int (12 : Int32) (own_edges t) (.int 0)) (hs4 : One s4) :
    ∃ (T' : State) (h' : Heap) (locs' : List Loc) (b4 : Addr), Stand p l e room_1 s m args below meth c T' locs' 3 20 ∧ T'.heap = h' ∧ Fr n0 locs' ∧ n0 ≤ h'.size ∧ Exa Z h' b4 "com/example/libpiecewise/libpiecewise/Dfa" ∧ Fld Z h' b4 "com/example/libpiecewise/libpiecewise/Dfa" "letterCount" "I" (.int (3 : Int32)) ∧ Fld Z h' b4 "com/example/libpiecewise/libpiecewise/Dfa" "next" "[I" (.ref o3) ∧ Arv Z h' o3 kt .int (12 : Int32) (own_edges t) (.int 0) ∧
      ∀ target, Steps p.tables e below (T'.setTop (mkF m 128 #[s0, s1, s2, .val (.ref o3), .val (.ref b4), s5, s6, s7, s8, s9, s10, s11, s12, s13, s14, s15, s16] [])) target → Steps p.tables e below (T0.setTop (mkF m 113 #[s0, s1, s2, .val (.ref o3), s4, s5, s6, s7, s8, s9, s10, s11, s12, s13, s14, s15, s16] [])) target := by
  obtain ⟨T4, h4, X4, e4, E4, A4, D4, -, st4⟩ := newO X0 hx hZ hown (hw _ (List.mem_of_getElem? (i := 5) rfl)) (hw _ (List.mem_of_getElem? (i := 6) rfl)) (hw _ (List.mem_of_getElem? (i := 7) rfl)) e0 (g := (mkF m 113 #[s0, s1, s2, .val (.ref o3), s4, s5, s6, s7, s8, s9, s10, s11, s12, s13, s14, s15, s16] [])) rfl (hb hby at_113) (by decide) (by decide)
  obtain ⟨b4, g4⟩ : ∃ z, z = h0.size := ⟨_, rfl⟩      -- the fresh object's address
  rw [← g4] at A4 D4 st4      -- A4 : Exa Z h4 b4 "com/example/libpiecewise/libpiecewise/Dfa"; E4 : Ext h0 h4 (carries every older fact: .ext E4)
  have F_letterCount_b4 : Fld Z h4 b4 "com/example/libpiecewise/libpiecewise/Dfa" "letterCount" "I" (.int (0 : Int32)) := D4 (Or.inr (hw _ (List.mem_of_getElem? (i := 16) rfl))) (ty := .int) (by decide)
  have F_initialState_b4 : Fld Z h4 b4 "com/example/libpiecewise/libpiecewise/Dfa" "initialState" "I" (.int (0 : Int32)) := D4 (Or.inr (hw _ (List.mem_of_getElem? (i := 18) rfl))) (ty := .int) (by decide)
  have F_accepting_b4 : Fld Z h4 b4 "com/example/libpiecewise/libpiecewise/Dfa" "accepting" "[Z" .null := D4 (Or.inr (hw _ (List.mem_of_getElem? (i := 20) rfl))) (ty := (.array .boolean)) (by decide)
  have F_next_b4 : Fld Z h4 b4 "com/example/libpiecewise/libpiecewise/Dfa" "next" "[I" .null := D4 (Or.inr (hw _ (List.mem_of_getElem? (i := 22) rfl))) (ty := (.array .int)) (by decide)
  have E_b4 := A4
  have g_b4 : n0 ≤ b4 := Nat.le_trans Z0 (Nat.le_of_eq g4.symm)
  have sz_b4 : h0.size ≤ b4 := (Nat.le_trans (Keep.refl h0 []).1 (Nat.le_of_eq g4.symm))
  have K4 : Keep h0 h4 [] := (Keep.refl h0 []).ext E4
  obtain ⟨T5, h5, k5, X5, e5, E5, A5, st5⟩ := newP X4 hx hZ (hw _ (List.mem_of_getElem? (i := 8) rfl)) e4 (g := (mkF m 120 #[s0, s1, s2, .val (.ref o3), s4, s5, s6, s7, s8, s9, s10, s11, s12, s13, s14, s15, s16] [(.int (4 : Int32)), (.int (0 : Int32)), (.int (3 : Int32)), (.ref b4), (.ref b4)])) rfl (hb hby at_120) rfl (by decide) (cap := 4) (by decide) (by decide) (by decide) (by decide)
  obtain ⟨b5, g5⟩ : ∃ z, z = h4.size := ⟨_, rfl⟩      -- the fresh array's address
  rw [← g5] at A5 st5
  have V_b5 : Arv Z h5 b5 k5 .boolean (4 : Int32) [(.int (0 : Int32)), (.int (0 : Int32)), (.int (0 : Int32)), (.int (0 : Int32))] (.int (0 : Int32)) := (Arv.new A5 (by decide)).pad (pad_rep [] (.int (0 : Int32)) 4)
  have g_b5 : n0 ≤ b5 := Nat.le_trans (Nat.le_trans Z0 E4.1) (Nat.le_of_eq g5.symm)
  have sz_b5 : h0.size ≤ b5 := (Nat.le_trans K4.1 (Nat.le_of_eq g5.symm))
  have K5 : Keep h0 h5 [] := K4.ext E5
  have Vx := ((V.ext E4).ext E5)
  have Vx' := Vx
  obtain ⟨cl4, Ar4, -, S4, N4, -, -⟩ := Vx'
  obtain ⟨cl30, Ar30, -, S30, N30, -, -⟩ := V_b5
  obtain ⟨_, _, ⟨T6, L6, k6, n6⟩, -, X6, ⟨Lc6, hQ6, l6, y6, z6⟩, st6⟩ := X5.specialBack hx (y := (⟨"com/example/libpiecewise/libpiecewise/Dfa", "<init>", "(II[Z[I)V"⟩ : MethodName)) rfl hown (mvT hZ (hw _ (List.mem_of_getElem? (i := 9) rfl))) (mvT hZ (hw _ (List.mem_of_getElem? (i := 10) rfl))) (mvT hZ (hw _ (List.mem_of_getElem? (i := 11) rfl))) (by decide) (backOf (W := 1) (rm2 l Z a0 hw [] b4 (3 : Int32) (0 : Int32) b5 o3 cl4 (12 : Int32) cl30 (4 : Int32) (.int (0 : Int32)) (.int (0 : Int32)) .null .null h5 n0 (Nat.le_trans Z0 K5.1) Ar4 S4 N4 Ar30 S30 N30 (E_b4.ext E5) (F_letterCount_b4.ext E5) g_b4 (F_initialState_b4.ext E5) (F_accepting_b4.ext E5) (F_next_b4.ext E5) (by decide)) hZ (hw _ (List.mem_of_getElem? (i := 11) rfl)) (hw _ (List.mem_of_getElem? (i := 7) rfl)) (by decide) (by decide)) (g := (mkF m 123 #[s0, s1, s2, .val (.ref o3), s4, s5, s6, s7, s8, s9, s10, s11, s12, s13, s14, s15, s16] [(.ref o3), (.ref b5), (.int (0 : Int32)), (.int (3 : Int32)), (.ref b4), (.ref b4)])) rfl (by rw [hml]; rfl) (Steps.refl _) (a := b4) (argsL := [(.int (3 : Int32)), (.int (0 : Int32)), (.ref b5), (.ref o3)]) (rest := [(.ref b4)]) (lenOf pd_0_1 rfl) rfl (by show 2 * 0 + _ ≤ _; exact Nat.le_of_eq rfl) (hb hby at_123) (fun _ _ => ⟨rfl, e5, (by decide : 1 + 2 + 0 ≤ _), (by decide : 12 + 8 + 0 ≤ _)⟩)
  dsimp only [Pt.U, Pt.locs, Pt.cells, Pt.slots] at X6 l6 y6 z6 st6 hQ6
  subst l6 y6 z6
  obtain ⟨rfl, N6q, Kz, Exz, Flz, Fiz, Faz, Fnz⟩ := hQ6      -- what it returned, that it wrote nothing old, and the rest of your Q2
  have N6 := Fr.app N0 N6q
  refine ⟨T6, _, _, b4, X6, rfl, N6, Nat.le_trans (Nat.le_trans Z0 K5.1) Kz.1, Exz, Flz, Fnz, Vx.keep Kz (fun q => Nat.ne_of_lt (Nat.lt_of_lt_of_le V.lt (Nat.le_of_eq g4.symm)) (List.mem_singleton.mp q)), fun target kt' => ?_⟩
  show Steps p.tables e below (T0.setTop (mkF m 113 #[s0, s1, s2, .val (.ref o3), s4, s5, s6, s7, s8, s9, s10, s11, s12, s13, s14, s15, s16] [])) _
  refine st4 _ ?_
  show Steps p.tables e below (T4.setTop (mkF m 116 #[s0, s1, s2, .val (.ref o3), s4, s5, s6, s7, s8, s9, s10, s11, s12, s13, s14, s15, s16] [(.ref b4)])) _
  refine XS.dup X4.here hx rfl (hb hby at_116) rfl rfl ?_
  show Steps p.tables e below (T4.setTop (mkF m 117 #[s0, s1, s2, .val (.ref o3), s4, s5, s6, s7, s8, s9, s10, s11, s12, s13, s14, s15, s16] [(.ref b4), (.ref b4)])) _
  refine XS.iconst X4.here hx rfl (hb hby at_117) ?_
  show Steps p.tables e below (T4.setTop (mkF m 118 #[s0, s1, s2, .val (.ref o3), s4, s5, s6, s7, s8, s9, s10, s11, s12, s13, s14, s15, s16] [(.int (3 : Int32)), (.ref b4), (.ref b4)])) _
  refine XS.iconst X4.here hx rfl (hb hby at_118) ?_
  show Steps p.tables e below (T4.setTop (mkF m 119 #[s0, s1, s2, .val (.ref o3), s4, s5, s6, s7, s8, s9, s10, s11, s12, s13, s14, s15, s16] [(.int (0 : Int32)), (.int (3 : Int32)), (.ref b4), (.ref b4)])) _
  refine XS.iconst X4.here hx rfl (hb hby at_119) ?_
  show Steps p.tables e below (T4.setTop (mkF m 120 #[s0, s1, s2, .val (.ref o3), s4, s5, s6, s7, s8, s9, s10, s11, s12, s13, s14, s15, s16] [(.int (4 : Int32)), (.int (0 : Int32)), (.int (3 : Int32)), (.ref b4), (.ref b4)])) _
  refine st5 _ ?_
  show Steps p.tables e below (T5.setTop (mkF m 122 #[s0, s1, s2, .val (.ref o3), s4, s5, s6, s7, s8, s9, s10, s11, s12, s13, s14, s15, s16] [(.ref b5), (.int (0 : Int32)), (.int (3 : Int32)), (.ref b4), (.ref b4)])) _
  refine XS.aloadN X5.here hx rfl (hb hby at_122) rfl rfl ?_
  show Steps p.tables e below (T5.setTop (mkF m 123 #[s0, s1, s2, .val (.ref o3), s4, s5, s6, s7, s8, s9, s10, s11, s12, s13, s14, s15, s16] [(.ref o3), (.ref b5), (.int (0 : Int32)), (.int (3 : Int32)), (.ref b4), (.ref b4)])) _
  refine st6.trans ?_
  show Steps p.tables e below (T6.setTop (mkF m 126 #[s0, s1, s2, .val (.ref o3), s4, s5, s6, s7, s8, s9, s10, s11, s12, s13, s14, s15, s16] [(.ref b4)])) _
  refine XS.astore X6.here hx rfl (hb hby at_126) rfl rfl (l' := #[s0, s1, s2, .val (.ref o3), .val (.ref b4), s5, s6, s7, s8, s9, s10, s11, s12, s13, s14, s15, s16]) (os0_126 hs4) ?_
  exact kt'

set_option maxRecDepth 65536 in
set_option maxHeartbeats 40000000 in
theorem tn0_128_179 {p : Program} {l : Launch} {e : Env} {R : Room} {s : State} {m : MethodId} {args : Array Value} {below : List Frame} {meth : Method} {c : Code} {T0 : State} {locs : List Loc} {cells slots : Nat} {Z : State} {a0 : Array Value} {h0 : Heap} (s0 : Slot) (i1 : Int32) (i2 : Int32) (s3 : Slot) (s4 : Slot) (s5 : Slot) (s6 : Slot) (s7 : Slot) (s8 : Slot) (s9 : Slot) (s10 : Slot) (s11 : Slot) (s12 : Slot) (s13 : Slot) (s14 : Slot) (s15 : Slot) (s16 : Slot)
    (X0 : Stand p l e R s m args below meth c T0 locs cells slots) (hx : p.tables.exec = Jvm.exec) (hZ : Z.Warmed39 s.vm) (hw : ∀ d ∈ tables_1, d.before a0 Z = true) (hby : c.code = code) (hml : c.maxLocals = 17) (hown : s.vm.findClass "com/example/libpiecewise/libpiecewise/DfaRunPinLaw" = some m.cls) (e0 : T0.heap = h0) (hs5 : One s5) (hs6 : One s6) (hs7 : One s7) (hs8 : One s8) (hs9 : One s9) (hs10 : One s10) :
    ∃ (T' : State), Stand p l e R s m args below meth c T' locs cells slots ∧ T'.heap = h0 ∧
      ∀ target, Steps p.tables e below (T'.setTop (mkF m 179 #[s0, .val (.int i1), .val (.int i2), s3, s4, .val (.int (i1 &&& (3 : Int32))), .val (.int (own_rem (i2 &&& (7 : Int32)) (5 : Int32))), .val (.int (own_rem (((i2.toUInt32 >>> ((3 : Int32) &&& 31).toUInt32).toInt32) &&& (3 : Int32)) (3 : Int32))), .val (.int (own_rem (((i2.toUInt32 >>> ((5 : Int32) &&& 31).toUInt32).toInt32) &&& (3 : Int32)) (3 : Int32))), .val (.int (own_rem (((i2.toUInt32 >>> ((7 : Int32) &&& 31).toUInt32).toInt32) &&& (3 : Int32)) (3 : Int32))), .val (.int (own_rem (((i2.toUInt32 >>> ((9 : Int32) &&& 31).toUInt32).toInt32) &&& (3 : Int32)) (3 : Int32))), s11, s12, s13, s14, s15, s16] [])) target → Steps p.tables e below (T0.setTop (mkF m 128 #[s0, .val (.int i1), .val (.int i2), s3, s4, s5, s6, s7, s8, s9, s10, s11, s12, s13, s14, s15, s16] [])) target := by

  refine ⟨T0, X0, e0, fun target kt => ?_⟩
  show Steps p.tables e below (T0.setTop (mkF m 128 #[s0, .val (.int i1), .val (.int i2), s3, s4, s5, s6, s7, s8, s9, s10, s11, s12, s13, s14, s15, s16] [])) _
  refine XS.iloadN X0.here hx rfl (hb hby at_128) rfl ?_
  show Steps p.tables e below (T0.setTop (mkF m 129 #[s0, .val (.int i1), .val (.int i2), s3, s4, s5, s6, s7, s8, s9, s10, s11, s12, s13, s14, s15, s16] [(.int i1)])) _
  refine XS.iconst X0.here hx rfl (hb hby at_129) ?_
  show Steps p.tables e below (T0.setTop (mkF m 130 #[s0, .val (.int i1), .val (.int i2), s3, s4, s5, s6, s7, s8, s9, s10, s11, s12, s13, s14, s15, s16] [(.int (3 : Int32)), (.int i1)])) _
  refine XS.iand X0.here hx rfl (hb hby at_130) rfl ?_
  show Steps p.tables e below (T0.setTop (mkF m 131 #[s0, .val (.int i1), .val (.int i2), s3, s4, s5, s6, s7, s8, s9, s10, s11, s12, s13, s14, s15, s16] [(.int (i1 &&& (3 : Int32)))])) _
  refine XS.istore X0.here hx rfl (hb hby at_131) rfl (l' := #[s0, .val (.int i1), .val (.int i2), s3, s4, .val (.int (i1 &&& (3 : Int32))), s6, s7, s8, s9, s10, s11, s12, s13, s14, s15, s16]) (os0_131 hs5) ?_
  show Steps p.tables e below (T0.setTop (mkF m 133 #[s0, .val (.int i1), .val (.int i2), s3, s4, .val (.int (i1 &&& (3 : Int32))), s6, s7, s8, s9, s10, s11, s12, s13, s14, s15, s16] [])) _
  refine XS.iloadN X0.here hx rfl (hb hby at_133) rfl ?_
  show Steps p.tables e below (T0.setTop (mkF m 134 #[s0, .val (.int i1), .val (.int i2), s3, s4, .val (.int (i1 &&& (3 : Int32))), s6, s7, s8, s9, s10, s11, s12, s13, s14, s15, s16] [(.int i2)])) _
  refine XS.bipush X0.here hx rfl (hb hby at_134) ?_
  show Steps p.tables e below (T0.setTop (mkF m 136 #[s0, .val (.int i1), .val (.int i2), s3, s4, .val (.int (i1 &&& (3 : Int32))), s6, s7, s8, s9, s10, s11, s12, s13, s14, s15, s16] [(.int (7 : Int32)), (.int i2)])) _
  refine XS.iand X0.here hx rfl (hb hby at_136) rfl ?_
  show Steps p.tables e below (T0.setTop (mkF m 137 #[s0, .val (.int i1), .val (.int i2), s3, s4, .val (.int (i1 &&& (3 : Int32))), s6, s7, s8, s9, s10, s11, s12, s13, s14, s15, s16] [(.int (i2 &&& (7 : Int32)))])) _
  refine XS.iconst X0.here hx rfl (hb hby at_137) ?_
  show Steps p.tables e below (T0.setTop (mkF m 138 #[s0, .val (.int i1), .val (.int i2), s3, s4, .val (.int (i1 &&& (3 : Int32))), s6, s7, s8, s9, s10, s11, s12, s13, s14, s15, s16] [(.int (5 : Int32)), (.int (i2 &&& (7 : Int32)))])) _
  refine own_irem X0.here hx rfl (hb hby at_138) rfl (by decide) ?_
  show Steps p.tables e below (T0.setTop (mkF m 139 #[s0, .val (.int i1), .val (.int i2), s3, s4, .val (.int (i1 &&& (3 : Int32))), s6, s7, s8, s9, s10, s11, s12, s13, s14, s15, s16] [(.int (own_rem (i2 &&& (7 : Int32)) (5 : Int32)))])) _
  refine XS.istore X0.here hx rfl (hb hby at_139) rfl (l' := #[s0, .val (.int i1), .val (.int i2), s3, s4, .val (.int (i1 &&& (3 : Int32))), .val (.int (own_rem (i2 &&& (7 : Int32)) (5 : Int32))), s7, s8, s9, s10, s11, s12, s13, s14, s15, s16]) (os0_139 hs6) ?_
  show Steps p.tables e below (T0.setTop (mkF m 141 #[s0, .val (.int i1), .val (.int i2), s3, s4, .val (.int (i1 &&& (3 : Int32))), .val (.int (own_rem (i2 &&& (7 : Int32)) (5 : Int32))), s7, s8, s9, s10, s11, s12, s13, s14, s15, s16] [])) _
  refine XS.iloadN X0.here hx rfl (hb hby at_141) rfl ?_
  show Steps p.tables e below (T0.setTop (mkF m 142 #[s0, .val (.int i1), .val (.int i2), s3, s4, .val (.int (i1 &&& (3 : Int32))), .val (.int (own_rem (i2 &&& (7 : Int32)) (5 : Int32))), s7, s8, s9, s10, s11, s12, s13, s14, s15, s16] [(.int i2)])) _
  refine XS.iconst X0.here hx rfl (hb hby at_142) ?_
  show Steps p.tables e below (T0.setTop (mkF m 143 #[s0, .val (.int i1), .val (.int i2), s3, s4, .val (.int (i1 &&& (3 : Int32))), .val (.int (own_rem (i2 &&& (7 : Int32)) (5 : Int32))), s7, s8, s9, s10, s11, s12, s13, s14, s15, s16] [(.int (3 : Int32)), (.int i2)])) _
  refine XS.iushr X0.here hx rfl (hb hby at_143) rfl ?_
  show Steps p.tables e below (T0.setTop (mkF m 144 #[s0, .val (.int i1), .val (.int i2), s3, s4, .val (.int (i1 &&& (3 : Int32))), .val (.int (own_rem (i2 &&& (7 : Int32)) (5 : Int32))), s7, s8, s9, s10, s11, s12, s13, s14, s15, s16] [(.int ((i2.toUInt32 >>> ((3 : Int32) &&& 31).toUInt32).toInt32))])) _
  refine XS.iconst X0.here hx rfl (hb hby at_144) ?_
  show Steps p.tables e below (T0.setTop (mkF m 145 #[s0, .val (.int i1), .val (.int i2), s3, s4, .val (.int (i1 &&& (3 : Int32))), .val (.int (own_rem (i2 &&& (7 : Int32)) (5 : Int32))), s7, s8, s9, s10, s11, s12, s13, s14, s15, s16] [(.int (3 : Int32)), (.int ((i2.toUInt32 >>> ((3 : Int32) &&& 31).toUInt32).toInt32))])) _
  refine XS.iand X0.here hx rfl (hb hby at_145) rfl ?_
  show Steps p.tables e below (T0.setTop (mkF m 146 #[s0, .val (.int i1), .val (.int i2), s3, s4, .val (.int (i1 &&& (3 : Int32))), .val (.int (own_rem (i2 &&& (7 : Int32)) (5 : Int32))), s7, s8, s9, s10, s11, s12, s13, s14, s15, s16] [(.int (((i2.toUInt32 >>> ((3 : Int32) &&& 31).toUInt32).toInt32) &&& (3 : Int32)))])) _
  refine XS.iconst X0.here hx rfl (hb hby at_146) ?_
  show Steps p.tables e below (T0.setTop (mkF m 147 #[s0, .val (.int i1), .val (.int i2), s3, s4, .val (.int (i1 &&& (3 : Int32))), .val (.int (own_rem (i2 &&& (7 : Int32)) (5 : Int32))), s7, s8, s9, s10, s11, s12, s13, s14, s15, s16] [(.int (3 : Int32)), (.int (((i2.toUInt32 >>> ((3 : Int32) &&& 31).toUInt32).toInt32) &&& (3 : Int32)))])) _
  refine own_irem X0.here hx rfl (hb hby at_147) rfl (by decide) ?_
  show Steps p.tables e below (T0.setTop (mkF m 148 #[s0, .val (.int i1), .val (.int i2), s3, s4, .val (.int (i1 &&& (3 : Int32))), .val (.int (own_rem (i2 &&& (7 : Int32)) (5 : Int32))), s7, s8, s9, s10, s11, s12, s13, s14, s15, s16] [(.int (own_rem (((i2.toUInt32 >>> ((3 : Int32) &&& 31).toUInt32).toInt32) &&& (3 : Int32)) (3 : Int32)))])) _
  refine XS.istore X0.here hx rfl (hb hby at_148) rfl (l' := #[s0, .val (.int i1), .val (.int i2), s3, s4, .val (.int (i1 &&& (3 : Int32))), .val (.int (own_rem (i2 &&& (7 : Int32)) (5 : Int32))), .val (.int (own_rem (((i2.toUInt32 >>> ((3 : Int32) &&& 31).toUInt32).toInt32) &&& (3 : Int32)) (3 : Int32))), s8, s9, s10, s11, s12, s13, s14, s15, s16]) (os0_148 hs7) ?_
  show Steps p.tables e below (T0.setTop (mkF m 150 #[s0, .val (.int i1), .val (.int i2), s3, s4, .val (.int (i1 &&& (3 : Int32))), .val (.int (own_rem (i2 &&& (7 : Int32)) (5 : Int32))), .val (.int (own_rem (((i2.toUInt32 >>> ((3 : Int32) &&& 31).toUInt32).toInt32) &&& (3 : Int32)) (3 : Int32))), s8, s9, s10, s11, s12, s13, s14, s15, s16] [])) _
  refine XS.iloadN X0.here hx rfl (hb hby at_150) rfl ?_
  show Steps p.tables e below (T0.setTop (mkF m 151 #[s0, .val (.int i1), .val (.int i2), s3, s4, .val (.int (i1 &&& (3 : Int32))), .val (.int (own_rem (i2 &&& (7 : Int32)) (5 : Int32))), .val (.int (own_rem (((i2.toUInt32 >>> ((3 : Int32) &&& 31).toUInt32).toInt32) &&& (3 : Int32)) (3 : Int32))), s8, s9, s10, s11, s12, s13, s14, s15, s16] [(.int i2)])) _
  refine XS.iconst X0.here hx rfl (hb hby at_151) ?_
  show Steps p.tables e below (T0.setTop (mkF m 152 #[s0, .val (.int i1), .val (.int i2), s3, s4, .val (.int (i1 &&& (3 : Int32))), .val (.int (own_rem (i2 &&& (7 : Int32)) (5 : Int32))), .val (.int (own_rem (((i2.toUInt32 >>> ((3 : Int32) &&& 31).toUInt32).toInt32) &&& (3 : Int32)) (3 : Int32))), s8, s9, s10, s11, s12, s13, s14, s15, s16] [(.int (5 : Int32)), (.int i2)])) _
  refine XS.iushr X0.here hx rfl (hb hby at_152) rfl ?_
  show Steps p.tables e below (T0.setTop (mkF m 153 #[s0, .val (.int i1), .val (.int i2), s3, s4, .val (.int (i1 &&& (3 : Int32))), .val (.int (own_rem (i2 &&& (7 : Int32)) (5 : Int32))), .val (.int (own_rem (((i2.toUInt32 >>> ((3 : Int32) &&& 31).toUInt32).toInt32) &&& (3 : Int32)) (3 : Int32))), s8, s9, s10, s11, s12, s13, s14, s15, s16] [(.int ((i2.toUInt32 >>> ((5 : Int32) &&& 31).toUInt32).toInt32))])) _
  refine XS.iconst X0.here hx rfl (hb hby at_153) ?_
  show Steps p.tables e below (T0.setTop (mkF m 154 #[s0, .val (.int i1), .val (.int i2), s3, s4, .val (.int (i1 &&& (3 : Int32))), .val (.int (own_rem (i2 &&& (7 : Int32)) (5 : Int32))), .val (.int (own_rem (((i2.toUInt32 >>> ((3 : Int32) &&& 31).toUInt32).toInt32) &&& (3 : Int32)) (3 : Int32))), s8, s9, s10, s11, s12, s13, s14, s15, s16] [(.int (3 : Int32)), (.int ((i2.toUInt32 >>> ((5 : Int32) &&& 31).toUInt32).toInt32))])) _
  refine XS.iand X0.here hx rfl (hb hby at_154) rfl ?_
  show Steps p.tables e below (T0.setTop (mkF m 155 #[s0, .val (.int i1), .val (.int i2), s3, s4, .val (.int (i1 &&& (3 : Int32))), .val (.int (own_rem (i2 &&& (7 : Int32)) (5 : Int32))), .val (.int (own_rem (((i2.toUInt32 >>> ((3 : Int32) &&& 31).toUInt32).toInt32) &&& (3 : Int32)) (3 : Int32))), s8, s9, s10, s11, s12, s13, s14, s15, s16] [(.int (((i2.toUInt32 >>> ((5 : Int32) &&& 31).toUInt32).toInt32) &&& (3 : Int32)))])) _
  refine XS.iconst X0.here hx rfl (hb hby at_155) ?_
  show Steps p.tables e below (T0.setTop (mkF m 156 #[s0, .val (.int i1), .val (.int i2), s3, s4, .val (.int (i1 &&& (3 : Int32))), .val (.int (own_rem (i2 &&& (7 : Int32)) (5 : Int32))), .val (.int (own_rem (((i2.toUInt32 >>> ((3 : Int32) &&& 31).toUInt32).toInt32) &&& (3 : Int32)) (3 : Int32))), s8, s9, s10, s11, s12, s13, s14, s15, s16] [(.int (3 : Int32)), (.int (((i2.toUInt32 >>> ((5 : Int32) &&& 31).toUInt32).toInt32) &&& (3 : Int32)))])) _
  refine own_irem X0.here hx rfl (hb hby at_156) rfl (by decide) ?_
  show Steps p.tables e below (T0.setTop (mkF m 157 #[s0, .val (.int i1), .val (.int i2), s3, s4, .val (.int (i1 &&& (3 : Int32))), .val (.int (own_rem (i2 &&& (7 : Int32)) (5 : Int32))), .val (.int (own_rem (((i2.toUInt32 >>> ((3 : Int32) &&& 31).toUInt32).toInt32) &&& (3 : Int32)) (3 : Int32))), s8, s9, s10, s11, s12, s13, s14, s15, s16] [(.int (own_rem (((i2.toUInt32 >>> ((5 : Int32) &&& 31).toUInt32).toInt32) &&& (3 : Int32)) (3 : Int32)))])) _
  refine XS.istore X0.here hx rfl (hb hby at_157) rfl (l' := #[s0, .val (.int i1), .val (.int i2), s3, s4, .val (.int (i1 &&& (3 : Int32))), .val (.int (own_rem (i2 &&& (7 : Int32)) (5 : Int32))), .val (.int (own_rem (((i2.toUInt32 >>> ((3 : Int32) &&& 31).toUInt32).toInt32) &&& (3 : Int32)) (3 : Int32))), .val (.int (own_rem (((i2.toUInt32 >>> ((5 : Int32) &&& 31).toUInt32).toInt32) &&& (3 : Int32)) (3 : Int32))), s9, s10, s11, s12, s13, s14, s15, s16]) (os0_157 hs8) ?_
  show Steps p.tables e below (T0.setTop (mkF m 159 #[s0, .val (.int i1), .val (.int i2), s3, s4, .val (.int (i1 &&& (3 : Int32))), .val (.int (own_rem (i2 &&& (7 : Int32)) (5 : Int32))), .val (.int (own_rem (((i2.toUInt32 >>> ((3 : Int32) &&& 31).toUInt32).toInt32) &&& (3 : Int32)) (3 : Int32))), .val (.int (own_rem (((i2.toUInt32 >>> ((5 : Int32) &&& 31).toUInt32).toInt32) &&& (3 : Int32)) (3 : Int32))), s9, s10, s11, s12, s13, s14, s15, s16] [])) _
  refine XS.iloadN X0.here hx rfl (hb hby at_159) rfl ?_
  show Steps p.tables e below (T0.setTop (mkF m 160 #[s0, .val (.int i1), .val (.int i2), s3, s4, .val (.int (i1 &&& (3 : Int32))), .val (.int (own_rem (i2 &&& (7 : Int32)) (5 : Int32))), .val (.int (own_rem (((i2.toUInt32 >>> ((3 : Int32) &&& 31).toUInt32).toInt32) &&& (3 : Int32)) (3 : Int32))), .val (.int (own_rem (((i2.toUInt32 >>> ((5 : Int32) &&& 31).toUInt32).toInt32) &&& (3 : Int32)) (3 : Int32))), s9, s10, s11, s12, s13, s14, s15, s16] [(.int i2)])) _
  refine XS.bipush X0.here hx rfl (hb hby at_160) ?_
  show Steps p.tables e below (T0.setTop (mkF m 162 #[s0, .val (.int i1), .val (.int i2), s3, s4, .val (.int (i1 &&& (3 : Int32))), .val (.int (own_rem (i2 &&& (7 : Int32)) (5 : Int32))), .val (.int (own_rem (((i2.toUInt32 >>> ((3 : Int32) &&& 31).toUInt32).toInt32) &&& (3 : Int32)) (3 : Int32))), .val (.int (own_rem (((i2.toUInt32 >>> ((5 : Int32) &&& 31).toUInt32).toInt32) &&& (3 : Int32)) (3 : Int32))), s9, s10, s11, s12, s13, s14, s15, s16] [(.int (7 : Int32)), (.int i2)])) _
  refine XS.iushr X0.here hx rfl (hb hby at_162) rfl ?_
  show Steps p.tables e below (T0.setTop (mkF m 163 #[s0, .val (.int i1), .val (.int i2), s3, s4, .val (.int (i1 &&& (3 : Int32))), .val (.int (own_rem (i2 &&& (7 : Int32)) (5 : Int32))), .val (.int (own_rem (((i2.toUInt32 >>> ((3 : Int32) &&& 31).toUInt32).toInt32) &&& (3 : Int32)) (3 : Int32))), .val (.int (own_rem (((i2.toUInt32 >>> ((5 : Int32) &&& 31).toUInt32).toInt32) &&& (3 : Int32)) (3 : Int32))), s9, s10, s11, s12, s13, s14, s15, s16] [(.int ((i2.toUInt32 >>> ((7 : Int32) &&& 31).toUInt32).toInt32))])) _
  refine XS.iconst X0.here hx rfl (hb hby at_163) ?_
  show Steps p.tables e below (T0.setTop (mkF m 164 #[s0, .val (.int i1), .val (.int i2), s3, s4, .val (.int (i1 &&& (3 : Int32))), .val (.int (own_rem (i2 &&& (7 : Int32)) (5 : Int32))), .val (.int (own_rem (((i2.toUInt32 >>> ((3 : Int32) &&& 31).toUInt32).toInt32) &&& (3 : Int32)) (3 : Int32))), .val (.int (own_rem (((i2.toUInt32 >>> ((5 : Int32) &&& 31).toUInt32).toInt32) &&& (3 : Int32)) (3 : Int32))), s9, s10, s11, s12, s13, s14, s15, s16] [(.int (3 : Int32)), (.int ((i2.toUInt32 >>> ((7 : Int32) &&& 31).toUInt32).toInt32))])) _
  refine XS.iand X0.here hx rfl (hb hby at_164) rfl ?_
  show Steps p.tables e below (T0.setTop (mkF m 165 #[s0, .val (.int i1), .val (.int i2), s3, s4, .val (.int (i1 &&& (3 : Int32))), .val (.int (own_rem (i2 &&& (7 : Int32)) (5 : Int32))), .val (.int (own_rem (((i2.toUInt32 >>> ((3 : Int32) &&& 31).toUInt32).toInt32) &&& (3 : Int32)) (3 : Int32))), .val (.int (own_rem (((i2.toUInt32 >>> ((5 : Int32) &&& 31).toUInt32).toInt32) &&& (3 : Int32)) (3 : Int32))), s9, s10, s11, s12, s13, s14, s15, s16] [(.int (((i2.toUInt32 >>> ((7 : Int32) &&& 31).toUInt32).toInt32) &&& (3 : Int32)))])) _
  refine XS.iconst X0.here hx rfl (hb hby at_165) ?_
  show Steps p.tables e below (T0.setTop (mkF m 166 #[s0, .val (.int i1), .val (.int i2), s3, s4, .val (.int (i1 &&& (3 : Int32))), .val (.int (own_rem (i2 &&& (7 : Int32)) (5 : Int32))), .val (.int (own_rem (((i2.toUInt32 >>> ((3 : Int32) &&& 31).toUInt32).toInt32) &&& (3 : Int32)) (3 : Int32))), .val (.int (own_rem (((i2.toUInt32 >>> ((5 : Int32) &&& 31).toUInt32).toInt32) &&& (3 : Int32)) (3 : Int32))), s9, s10, s11, s12, s13, s14, s15, s16] [(.int (3 : Int32)), (.int (((i2.toUInt32 >>> ((7 : Int32) &&& 31).toUInt32).toInt32) &&& (3 : Int32)))])) _
  refine own_irem X0.here hx rfl (hb hby at_166) rfl (by decide) ?_
  show Steps p.tables e below (T0.setTop (mkF m 167 #[s0, .val (.int i1), .val (.int i2), s3, s4, .val (.int (i1 &&& (3 : Int32))), .val (.int (own_rem (i2 &&& (7 : Int32)) (5 : Int32))), .val (.int (own_rem (((i2.toUInt32 >>> ((3 : Int32) &&& 31).toUInt32).toInt32) &&& (3 : Int32)) (3 : Int32))), .val (.int (own_rem (((i2.toUInt32 >>> ((5 : Int32) &&& 31).toUInt32).toInt32) &&& (3 : Int32)) (3 : Int32))), s9, s10, s11, s12, s13, s14, s15, s16] [(.int (own_rem (((i2.toUInt32 >>> ((7 : Int32) &&& 31).toUInt32).toInt32) &&& (3 : Int32)) (3 : Int32)))])) _
  refine XS.istore X0.here hx rfl (hb hby at_167) rfl (l' := #[s0, .val (.int i1), .val (.int i2), s3, s4, .val (.int (i1 &&& (3 : Int32))), .val (.int (own_rem (i2 &&& (7 : Int32)) (5 : Int32))), .val (.int (own_rem (((i2.toUInt32 >>> ((3 : Int32) &&& 31).toUInt32).toInt32) &&& (3 : Int32)) (3 : Int32))), .val (.int (own_rem (((i2.toUInt32 >>> ((5 : Int32) &&& 31).toUInt32).toInt32) &&& (3 : Int32)) (3 : Int32))), .val (.int (own_rem (((i2.toUInt32 >>> ((7 : Int32) &&& 31).toUInt32).toInt32) &&& (3 : Int32)) (3 : Int32))), s10, s11, s12, s13, s14, s15, s16]) (os0_167 hs9) ?_
  show Steps p.tables e below (T0.setTop (mkF m 169 #[s0, .val (.int i1), .val (.int i2), s3, s4, .val (.int (i1 &&& (3 : Int32))), .val (.int (own_rem (i2 &&& (7 : Int32)) (5 : Int32))), .val (.int (own_rem (((i2.toUInt32 >>> ((3 : Int32) &&& 31).toUInt32).toInt32) &&& (3 : Int32)) (3 : Int32))), .val (.int (own_rem (((i2.toUInt32 >>> ((5 : Int32) &&& 31).toUInt32).toInt32) &&& (3 : Int32)) (3 : Int32))), .val (.int (own_rem (((i2.toUInt32 >>> ((7 : Int32) &&& 31).toUInt32).toInt32) &&& (3 : Int32)) (3 : Int32))), s10, s11, s12, s13, s14, s15, s16] [])) _
  refine XS.iloadN X0.here hx rfl (hb hby at_169) rfl ?_
  show Steps p.tables e below (T0.setTop (mkF m 170 #[s0, .val (.int i1), .val (.int i2), s3, s4, .val (.int (i1 &&& (3 : Int32))), .val (.int (own_rem (i2 &&& (7 : Int32)) (5 : Int32))), .val (.int (own_rem (((i2.toUInt32 >>> ((3 : Int32) &&& 31).toUInt32).toInt32) &&& (3 : Int32)) (3 : Int32))), .val (.int (own_rem (((i2.toUInt32 >>> ((5 : Int32) &&& 31).toUInt32).toInt32) &&& (3 : Int32)) (3 : Int32))), .val (.int (own_rem (((i2.toUInt32 >>> ((7 : Int32) &&& 31).toUInt32).toInt32) &&& (3 : Int32)) (3 : Int32))), s10, s11, s12, s13, s14, s15, s16] [(.int i2)])) _
  refine XS.bipush X0.here hx rfl (hb hby at_170) ?_
  show Steps p.tables e below (T0.setTop (mkF m 172 #[s0, .val (.int i1), .val (.int i2), s3, s4, .val (.int (i1 &&& (3 : Int32))), .val (.int (own_rem (i2 &&& (7 : Int32)) (5 : Int32))), .val (.int (own_rem (((i2.toUInt32 >>> ((3 : Int32) &&& 31).toUInt32).toInt32) &&& (3 : Int32)) (3 : Int32))), .val (.int (own_rem (((i2.toUInt32 >>> ((5 : Int32) &&& 31).toUInt32).toInt32) &&& (3 : Int32)) (3 : Int32))), .val (.int (own_rem (((i2.toUInt32 >>> ((7 : Int32) &&& 31).toUInt32).toInt32) &&& (3 : Int32)) (3 : Int32))), s10, s11, s12, s13, s14, s15, s16] [(.int (9 : Int32)), (.int i2)])) _
  refine XS.iushr X0.here hx rfl (hb hby at_172) rfl ?_
  show Steps p.tables e below (T0.setTop (mkF m 173 #[s0, .val (.int i1), .val (.int i2), s3, s4, .val (.int (i1 &&& (3 : Int32))), .val (.int (own_rem (i2 &&& (7 : Int32)) (5 : Int32))), .val (.int (own_rem (((i2.toUInt32 >>> ((3 : Int32) &&& 31).toUInt32).toInt32) &&& (3 : Int32)) (3 : Int32))), .val (.int (own_rem (((i2.toUInt32 >>> ((5 : Int32) &&& 31).toUInt32).toInt32) &&& (3 : Int32)) (3 : Int32))), .val (.int (own_rem (((i2.toUInt32 >>> ((7 : Int32) &&& 31).toUInt32).toInt32) &&& (3 : Int32)) (3 : Int32))), s10, s11, s12, s13, s14, s15, s16] [(.int ((i2.toUInt32 >>> ((9 : Int32) &&& 31).toUInt32).toInt32))])) _
  refine XS.iconst X0.here hx rfl (hb hby at_173) ?_
  show Steps p.tables e below (T0.setTop (mkF m 174 #[s0, .val (.int i1), .val (.int i2), s3, s4, .val (.int (i1 &&& (3 : Int32))), .val (.int (own_rem (i2 &&& (7 : Int32)) (5 : Int32))), .val (.int (own_rem (((i2.toUInt32 >>> ((3 : Int32) &&& 31).toUInt32).toInt32) &&& (3 : Int32)) (3 : Int32))), .val (.int (own_rem (((i2.toUInt32 >>> ((5 : Int32) &&& 31).toUInt32).toInt32) &&& (3 : Int32)) (3 : Int32))), .val (.int (own_rem (((i2.toUInt32 >>> ((7 : Int32) &&& 31).toUInt32).toInt32) &&& (3 : Int32)) (3 : Int32))), s10, s11, s12, s13, s14, s15, s16] [(.int (3 : Int32)), (.int ((i2.toUInt32 >>> ((9 : Int32) &&& 31).toUInt32).toInt32))])) _
  refine XS.iand X0.here hx rfl (hb hby at_174) rfl ?_
  show Steps p.tables e below (T0.setTop (mkF m 175 #[s0, .val (.int i1), .val (.int i2), s3, s4, .val (.int (i1 &&& (3 : Int32))), .val (.int (own_rem (i2 &&& (7 : Int32)) (5 : Int32))), .val (.int (own_rem (((i2.toUInt32 >>> ((3 : Int32) &&& 31).toUInt32).toInt32) &&& (3 : Int32)) (3 : Int32))), .val (.int (own_rem (((i2.toUInt32 >>> ((5 : Int32) &&& 31).toUInt32).toInt32) &&& (3 : Int32)) (3 : Int32))), .val (.int (own_rem (((i2.toUInt32 >>> ((7 : Int32) &&& 31).toUInt32).toInt32) &&& (3 : Int32)) (3 : Int32))), s10, s11, s12, s13, s14, s15, s16] [(.int (((i2.toUInt32 >>> ((9 : Int32) &&& 31).toUInt32).toInt32) &&& (3 : Int32)))])) _
  refine XS.iconst X0.here hx rfl (hb hby at_175) ?_
  show Steps p.tables e below (T0.setTop (mkF m 176 #[s0, .val (.int i1), .val (.int i2), s3, s4, .val (.int (i1 &&& (3 : Int32))), .val (.int (own_rem (i2 &&& (7 : Int32)) (5 : Int32))), .val (.int (own_rem (((i2.toUInt32 >>> ((3 : Int32) &&& 31).toUInt32).toInt32) &&& (3 : Int32)) (3 : Int32))), .val (.int (own_rem (((i2.toUInt32 >>> ((5 : Int32) &&& 31).toUInt32).toInt32) &&& (3 : Int32)) (3 : Int32))), .val (.int (own_rem (((i2.toUInt32 >>> ((7 : Int32) &&& 31).toUInt32).toInt32) &&& (3 : Int32)) (3 : Int32))), s10, s11, s12, s13, s14, s15, s16] [(.int (3 : Int32)), (.int (((i2.toUInt32 >>> ((9 : Int32) &&& 31).toUInt32).toInt32) &&& (3 : Int32)))])) _
  refine own_irem X0.here hx rfl (hb hby at_176) rfl (by decide) ?_
  show Steps p.tables e below (T0.setTop (mkF m 177 #[s0, .val (.int i1), .val (.int i2), s3, s4, .val (.int (i1 &&& (3 : Int32))), .val (.int (own_rem (i2 &&& (7 : Int32)) (5 : Int32))), .val (.int (own_rem (((i2.toUInt32 >>> ((3 : Int32) &&& 31).toUInt32).toInt32) &&& (3 : Int32)) (3 : Int32))), .val (.int (own_rem (((i2.toUInt32 >>> ((5 : Int32) &&& 31).toUInt32).toInt32) &&& (3 : Int32)) (3 : Int32))), .val (.int (own_rem (((i2.toUInt32 >>> ((7 : Int32) &&& 31).toUInt32).toInt32) &&& (3 : Int32)) (3 : Int32))), s10, s11, s12, s13, s14, s15, s16] [(.int (own_rem (((i2.toUInt32 >>> ((9 : Int32) &&& 31).toUInt32).toInt32) &&& (3 : Int32)) (3 : Int32)))])) _
  refine XS.istore X0.here hx rfl (hb hby at_177) rfl (l' := #[s0, .val (.int i1), .val (.int i2), s3, s4, .val (.int (i1 &&& (3 : Int32))), .val (.int (own_rem (i2 &&& (7 : Int32)) (5 : Int32))), .val (.int (own_rem (((i2.toUInt32 >>> ((3 : Int32) &&& 31).toUInt32).toInt32) &&& (3 : Int32)) (3 : Int32))), .val (.int (own_rem (((i2.toUInt32 >>> ((5 : Int32) &&& 31).toUInt32).toInt32) &&& (3 : Int32)) (3 : Int32))), .val (.int (own_rem (((i2.toUInt32 >>> ((7 : Int32) &&& 31).toUInt32).toInt32) &&& (3 : Int32)) (3 : Int32))), .val (.int (own_rem (((i2.toUInt32 >>> ((9 : Int32) &&& 31).toUInt32).toInt32) &&& (3 : Int32)) (3 : Int32))), s11, s12, s13, s14, s15, s16]) (os0_177 hs10) ?_
  exact kt

set_option maxRecDepth 65536 in
set_option maxHeartbeats 40000000 in
theorem tnC_0 {p : Program} {l : Launch} {e : Env} {s : State} {m : MethodId} {args : Array Value} {below : List Frame} {meth : Method} {c : Code} {T0 : State} {locs : List Loc} {Z : State} {a0 : Array Value} {h0 : Heap} (s0 : Slot) (s1 : Slot) (s2 : Slot) (s3 : Slot) (s4 : Slot) (s5 : Slot) (i6 : Int32) (s7 : Slot) (s8 : Slot) (s9 : Slot) (s10 : Slot) (s11 : Slot) (s12 : Slot) (s13 : Slot) (s14 : Slot) (s15 : Slot) (s16 : Slot) (n0 : Nat)
    (X0 : Stand p l e room_1 s m args below meth c T0 locs 3 20) (hx : p.tables.exec = Jvm.exec) (hZ : Z.Warmed39 s.vm) (hw : ∀ d ∈ tables_1, d.before a0 Z = true) (hby : c.code = code) (hml : c.maxLocals = 17) (hown : s.vm.findClass "com/example/libpiecewise/libpiecewise/DfaRunPinLaw" = some m.cls) (e0 : T0.heap = h0) (Z0 : n0 ≤ h0.size) (N0 : Fr n0 locs) (hs11 : One s11) (hc181 : i6 = (0 : Int32)) :
    ∃ (T' : State) (h' : Heap) (locs' : List Loc) (b4 : Addr) (k4 : ClassId), Stand p l e room_1 s m args below meth c T' locs' 4 20 ∧ T'.heap = h' ∧ Fr n0 locs' ∧ Keep h0 h' [] ∧ Arv Z h' b4 k4 .int (0 : Int32) (([] : List Int32).map Value.int) (.int 0) ∧
      ∀ target, Steps p.tables e below (T'.setTop (mkF m 289 #[s0, s1, s2, s3, s4, s5, .val (.int i6), s7, s8, s9, s10, .val (.ref b4), s12, s13, s14, s15, s16] [])) target → Steps p.tables e below (T0.setTop (mkF m 179 #[s0, s1, s2, s3, s4, s5, .val (.int i6), s7, s8, s9, s10, s11, s12, s13, s14, s15, s16] [])) target := by
  obtain ⟨T4, h4, k4, X4, e4, E4, A4, st4⟩ := newP X0 hx hZ (hw _ (List.mem_of_getElem? (i := 0) rfl)) e0 (g := (mkF m 185 #[s0, s1, s2, s3, s4, s5, .val (.int i6), s7, s8, s9, s10, s11, s12, s13, s14, s15, s16] [(.int (0 : Int32))])) rfl (hb hby at_185) rfl (by decide) (cap := 0) (by decide) (by decide) (by decide) (by decide)
  obtain ⟨b4, g4⟩ : ∃ z, z = h0.size := ⟨_, rfl⟩      -- the fresh array's address
  rw [← g4] at A4 st4
  have V_b4 := Arv.new A4 (by decide)      -- Arv Z h4 b4 k4 .int (0 : Int32) [] (its first value); a place must be in the list before it's written: Arv.pad with pad_rep
  have g_b4 : n0 ≤ b4 := Nat.le_trans Z0 (Nat.le_of_eq g4.symm)
  have sz_b4 : h0.size ≤ b4 := (Nat.le_trans (Keep.refl h0 []).1 (Nat.le_of_eq g4.symm))
  have K4 : Keep h0 h4 [] := (Keep.refl h0 []).ext E4
  refine ⟨T4, _, _, b4, k4, X4, e4, N0, K4, V_b4, fun target kt => ?_⟩
  show Steps p.tables e below (T0.setTop (mkF m 179 #[s0, s1, s2, s3, s4, s5, .val (.int i6), s7, s8, s9, s10, s11, s12, s13, s14, s15, s16] [])) _
  refine XS.iload X0.here hx rfl (hb hby at_179) rfl ?_
  show Steps p.tables e below (T0.setTop (mkF m 181 #[s0, s1, s2, s3, s4, s5, .val (.int i6), s7, s8, s9, s10, s11, s12, s13, s14, s15, s16] [(.int i6)])) _
  refine XS.ifNo X0.here hx rfl (hb hby at_181) rfl ((if0 _ _).trans (teq hc181).2) ?_
  show Steps p.tables e below (T0.setTop (mkF m 184 #[s0, s1, s2, s3, s4, s5, .val (.int i6), s7, s8, s9, s10, s11, s12, s13, s14, s15, s16] [])) _
  refine XS.iconst X0.here hx rfl (hb hby at_184) ?_
  show Steps p.tables e below (T0.setTop (mkF m 185 #[s0, s1, s2, s3, s4, s5, .val (.int i6), s7, s8, s9, s10, s11, s12, s13, s14, s15, s16] [(.int (0 : Int32))])) _
  refine st4 _ ?_
  show Steps p.tables e below (T4.setTop (mkF m 187 #[s0, s1, s2, s3, s4, s5, .val (.int i6), s7, s8, s9, s10, s11, s12, s13, s14, s15, s16] [(.ref b4)])) _
  refine XS.astore X4.here hx rfl (hb hby at_187) rfl rfl (l' := #[s0, s1, s2, s3, s4, s5, .val (.int i6), s7, s8, s9, s10, .val (.ref b4), s12, s13, s14, s15, s16]) (os0_187 hs11) ?_
  show Steps p.tables e below (T4.setTop (mkF m 189 #[s0, s1, s2, s3, s4, s5, .val (.int i6), s7, s8, s9, s10, .val (.ref b4), s12, s13, s14, s15, s16] [])) _
  refine XS.goto X4.here hx rfl (pc0 := 189) (pc' := 289) rfl (hb hby at_189) (by decide) (by decide) ?_
  exact kt

set_option maxRecDepth 65536 in
set_option maxHeartbeats 40000000 in
theorem tnC_1 {p : Program} {l : Launch} {e : Env} {s : State} {m : MethodId} {args : Array Value} {below : List Frame} {meth : Method} {c : Code} {T0 : State} {locs : List Loc} {Z : State} {a0 : Array Value} {h0 : Heap} (s0 : Slot) (s1 : Slot) (s2 : Slot) (s3 : Slot) (s4 : Slot) (s5 : Slot) (i6 : Int32) (i7 : Int32) (s8 : Slot) (s9 : Slot) (s10 : Slot) (s11 : Slot) (s12 : Slot) (s13 : Slot) (s14 : Slot) (s15 : Slot) (s16 : Slot) (n0 : Nat)
    (X0 : Stand p l e room_1 s m args below meth c T0 locs 3 20) (hx : p.tables.exec = Jvm.exec) (hZ : Z.Warmed39 s.vm) (hw : ∀ d ∈ tables_1, d.before a0 Z = true) (hby : c.code = code) (hml : c.maxLocals = 17) (hown : s.vm.findClass "com/example/libpiecewise/libpiecewise/DfaRunPinLaw" = some m.cls) (e0 : T0.heap = h0) (Z0 : n0 ≤ h0.size) (N0 : Fr n0 locs) (hs11 : One s11) (hc181 : ¬ (i6 = (0 : Int32))) (hc195 : i6 = (1 : Int32)) :
    ∃ (T' : State) (h' : Heap) (locs' : List Loc) (b4 : Addr) (k4 : ClassId), Stand p l e room_1 s m args below meth c T' locs' 4 21 ∧ T'.heap = h' ∧ Fr n0 locs' ∧ Keep h0 h' [] ∧ Arv Z h' b4 k4 .int (1 : Int32) (([i7] : List Int32).map Value.int) (.int 0) ∧
      ∀ target, Steps p.tables e below (T'.setTop (mkF m 289 #[s0, s1, s2, s3, s4, s5, .val (.int i6), .val (.int i7), s8, s9, s10, .val (.ref b4), s12, s13, s14, s15, s16] [])) target → Steps p.tables e below (T0.setTop (mkF m 179 #[s0, s1, s2, s3, s4, s5, .val (.int i6), .val (.int i7), s8, s9, s10, s11, s12, s13, s14, s15, s16] [])) target := by
  obtain ⟨T4, h4, k4, X4, e4, E4, A4, st4⟩ := newP X0 hx hZ (hw _ (List.mem_of_getElem? (i := 0) rfl)) e0 (g := (mkF m 199 #[s0, s1, s2, s3, s4, s5, .val (.int i6), .val (.int i7), s8, s9, s10, s11, s12, s13, s14, s15, s16] [(.int (1 : Int32))])) rfl (hb hby at_199) rfl (by decide) (cap := 1) (by decide) (by decide) (by decide) (by decide)
  obtain ⟨b4, g4⟩ : ∃ z, z = h0.size := ⟨_, rfl⟩      -- the fresh array's address
  rw [← g4] at A4 st4
  have V_b4 : Arv Z h4 b4 k4 .int (1 : Int32) [(.int (0 : Int32))] (.int (0 : Int32)) := (Arv.new A4 (by decide)).pad (pad_rep [] (.int (0 : Int32)) 1)
  have g_b4 : n0 ≤ b4 := Nat.le_trans Z0 (Nat.le_of_eq g4.symm)
  have sz_b4 : h0.size ≤ b4 := (Nat.le_trans (Keep.refl h0 []).1 (Nat.le_of_eq g4.symm))
  have K4 : Keep h0 h4 [] := (Keep.refl h0 []).ext E4
  obtain ⟨cl_b4_205, Ar_b4, q_b4, S_b4, N_b4, H_b4, G_b4⟩ := V_b4      -- open the array's fact as it stands now (its cell, kind, length, elements)
  have hin205 : ¬ ((0 : Int32) < 0 ∨ cl_b4_205.slots.size ≤ ((0 : Int32)).toNatClampNeg) := inb_of S_b4 ⟨by decide, by decide⟩
  obtain ⟨T5, h5, X5, e5, W5, st5⟩ := stI X4 hx hZ e4 Ar_b4 (j := (0 : Int32)) hin205 (g := (mkF m 205 #[s0, s1, s2, s3, s4, s5, .val (.int i6), .val (.int i7), s8, s9, s10, s11, s12, s13, s14, s15, s16] [(.int i7), (.int (0 : Int32)), (.ref b4), (.ref b4)])) rfl rfl (hb hby at_205)
  have V_b4_5 := Arv.set Ar_b4 q_b4 S_b4 N_b4 H_b4 G_b4 rfl W5 0 rfl (Nat.le_of_ble_eq_true rfl)      -- the array as it stands now (the place must lie among its first values: Arv.pad with pad_rep lengthens them)
  have K5 : Keep h0 h5 [] := K4.wr W5 (Or.inr sz_b4)
  have N5 := Fr.snoc X5 N0 g_b4
  refine ⟨T5, _, _, b4, k4, X5, e5, N5, K5, V_b4_5, fun target kt => ?_⟩
  show Steps p.tables e below (T0.setTop (mkF m 179 #[s0, s1, s2, s3, s4, s5, .val (.int i6), .val (.int i7), s8, s9, s10, s11, s12, s13, s14, s15, s16] [])) _
  refine XS.iload X0.here hx rfl (hb hby at_179) rfl ?_
  show Steps p.tables e below (T0.setTop (mkF m 181 #[s0, s1, s2, s3, s4, s5, .val (.int i6), .val (.int i7), s8, s9, s10, s11, s12, s13, s14, s15, s16] [(.int i6)])) _
  refine XS.ifYes X0.here hx rfl (pc0 := 181) (pc' := 192) rfl (hb hby at_181) rfl ((if0 _ _).trans (feq hc181).2) (by decide) (by decide) ?_
  show Steps p.tables e below (T0.setTop (mkF m 192 #[s0, s1, s2, s3, s4, s5, .val (.int i6), .val (.int i7), s8, s9, s10, s11, s12, s13, s14, s15, s16] [])) _
  refine XS.iload X0.here hx rfl (hb hby at_192) rfl ?_
  show Steps p.tables e below (T0.setTop (mkF m 194 #[s0, s1, s2, s3, s4, s5, .val (.int i6), .val (.int i7), s8, s9, s10, s11, s12, s13, s14, s15, s16] [(.int i6)])) _
  refine XS.iconst X0.here hx rfl (hb hby at_194) ?_
  show Steps p.tables e below (T0.setTop (mkF m 195 #[s0, s1, s2, s3, s4, s5, .val (.int i6), .val (.int i7), s8, s9, s10, s11, s12, s13, s14, s15, s16] [(.int (1 : Int32)), (.int i6)])) _
  refine XS.icmpNo X0.here hx rfl (hb hby at_195) rfl (teq hc195).2 ?_
  show Steps p.tables e below (T0.setTop (mkF m 198 #[s0, s1, s2, s3, s4, s5, .val (.int i6), .val (.int i7), s8, s9, s10, s11, s12, s13, s14, s15, s16] [])) _
  refine XS.iconst X0.here hx rfl (hb hby at_198) ?_
  show Steps p.tables e below (T0.setTop (mkF m 199 #[s0, s1, s2, s3, s4, s5, .val (.int i6), .val (.int i7), s8, s9, s10, s11, s12, s13, s14, s15, s16] [(.int (1 : Int32))])) _
  refine st4 _ ?_
  show Steps p.tables e below (T4.setTop (mkF m 201 #[s0, s1, s2, s3, s4, s5, .val (.int i6), .val (.int i7), s8, s9, s10, s11, s12, s13, s14, s15, s16] [(.ref b4)])) _
  refine XS.dup X4.here hx rfl (hb hby at_201) rfl rfl ?_
  show Steps p.tables e below (T4.setTop (mkF m 202 #[s0, s1, s2, s3, s4, s5, .val (.int i6), .val (.int i7), s8, s9, s10, s11, s12, s13, s14, s15, s16] [(.ref b4), (.ref b4)])) _
  refine XS.iconst X4.here hx rfl (hb hby at_202) ?_
  show Steps p.tables e below (T4.setTop (mkF m 203 #[s0, s1, s2, s3, s4, s5, .val (.int i6), .val (.int i7), s8, s9, s10, s11, s12, s13, s14, s15, s16] [(.int (0 : Int32)), (.ref b4), (.ref b4)])) _
  refine XS.iload X4.here hx rfl (hb hby at_203) rfl ?_
  show Steps p.tables e below (T4.setTop (mkF m 205 #[s0, s1, s2, s3, s4, s5, .val (.int i6), .val (.int i7), s8, s9, s10, s11, s12, s13, s14, s15, s16] [(.int i7), (.int (0 : Int32)), (.ref b4), (.ref b4)])) _
  refine st5 _ ?_
  show Steps p.tables e below (T5.setTop (mkF m 206 #[s0, s1, s2, s3, s4, s5, .val (.int i6), .val (.int i7), s8, s9, s10, s11, s12, s13, s14, s15, s16] [(.ref b4)])) _
  refine XS.astore X5.here hx rfl (hb hby at_206) rfl rfl (l' := #[s0, s1, s2, s3, s4, s5, .val (.int i6), .val (.int i7), s8, s9, s10, .val (.ref b4), s12, s13, s14, s15, s16]) (os0_206 hs11) ?_
  show Steps p.tables e below (T5.setTop (mkF m 208 #[s0, s1, s2, s3, s4, s5, .val (.int i6), .val (.int i7), s8, s9, s10, .val (.ref b4), s12, s13, s14, s15, s16] [])) _
  refine XS.goto X5.here hx rfl (pc0 := 208) (pc' := 289) rfl (hb hby at_208) (by decide) (by decide) ?_
  exact kt

set_option maxRecDepth 65536 in
set_option maxHeartbeats 40000000 in
theorem tnC_2 {p : Program} {l : Launch} {e : Env} {s : State} {m : MethodId} {args : Array Value} {below : List Frame} {meth : Method} {c : Code} {T0 : State} {locs : List Loc} {Z : State} {a0 : Array Value} {h0 : Heap} (s0 : Slot) (s1 : Slot) (s2 : Slot) (s3 : Slot) (s4 : Slot) (s5 : Slot) (i6 : Int32) (i7 : Int32) (i8 : Int32) (s9 : Slot) (s10 : Slot) (s11 : Slot) (s12 : Slot) (s13 : Slot) (s14 : Slot) (s15 : Slot) (s16 : Slot) (n0 : Nat)
    (X0 : Stand p l e room_1 s m args below meth c T0 locs 3 20) (hx : p.tables.exec = Jvm.exec) (hZ : Z.Warmed39 s.vm) (hw : ∀ d ∈ tables_1, d.before a0 Z = true) (hby : c.code = code) (hml : c.maxLocals = 17) (hown : s.vm.findClass "com/example/libpiecewise/libpiecewise/DfaRunPinLaw" = some m.cls) (e0 : T0.heap = h0) (Z0 : n0 ≤ h0.size) (N0 : Fr n0 locs) (hs11 : One s11) (hc181 : ¬ (i6 = (0 : Int32))) (hc195 : ¬ (i6 = (1 : Int32))) (hc214 : i6 = (2 : Int32)) :
    ∃ (T' : State) (h' : Heap) (locs' : List Loc) (b4 : Addr) (k4 : ClassId), Stand p l e room_1 s m args below meth c T' locs' 4 22 ∧ T'.heap = h' ∧ Fr n0 locs' ∧ Keep h0 h' [] ∧ Arv Z h' b4 k4 .int (2 : Int32) (([i7, i8] : List Int32).map Value.int) (.int 0) ∧
      ∀ target, Steps p.tables e below (T'.setTop (mkF m 289 #[s0, s1, s2, s3, s4, s5, .val (.int i6), .val (.int i7), .val (.int i8), s9, s10, .val (.ref b4), s12, s13, s14, s15, s16] [])) target → Steps p.tables e below (T0.setTop (mkF m 179 #[s0, s1, s2, s3, s4, s5, .val (.int i6), .val (.int i7), .val (.int i8), s9, s10, s11, s12, s13, s14, s15, s16] [])) target := by
  obtain ⟨T4, h4, k4, X4, e4, E4, A4, st4⟩ := newP X0 hx hZ (hw _ (List.mem_of_getElem? (i := 0) rfl)) e0 (g := (mkF m 218 #[s0, s1, s2, s3, s4, s5, .val (.int i6), .val (.int i7), .val (.int i8), s9, s10, s11, s12, s13, s14, s15, s16] [(.int (2 : Int32))])) rfl (hb hby at_218) rfl (by decide) (cap := 2) (by decide) (by decide) (by decide) (by decide)
  obtain ⟨b4, g4⟩ : ∃ z, z = h0.size := ⟨_, rfl⟩      -- the fresh array's address
  rw [← g4] at A4 st4
  have V_b4 : Arv Z h4 b4 k4 .int (2 : Int32) [(.int (0 : Int32)), (.int (0 : Int32))] (.int (0 : Int32)) := (Arv.new A4 (by decide)).pad (pad_rep [] (.int (0 : Int32)) 2)
  have g_b4 : n0 ≤ b4 := Nat.le_trans Z0 (Nat.le_of_eq g4.symm)
  have sz_b4 : h0.size ≤ b4 := (Nat.le_trans (Keep.refl h0 []).1 (Nat.le_of_eq g4.symm))
  have K4 : Keep h0 h4 [] := (Keep.refl h0 []).ext E4
  obtain ⟨cl_b4_224, Ar_b4, q_b4, S_b4, N_b4, H_b4, G_b4⟩ := V_b4      -- open the array's fact as it stands now (its cell, kind, length, elements)
  have hin224 : ¬ ((0 : Int32) < 0 ∨ cl_b4_224.slots.size ≤ ((0 : Int32)).toNatClampNeg) := inb_of S_b4 ⟨by decide, by decide⟩
  obtain ⟨T5, h5, X5, e5, W5, st5⟩ := stI X4 hx hZ e4 Ar_b4 (j := (0 : Int32)) hin224 (g := (mkF m 224 #[s0, s1, s2, s3, s4, s5, .val (.int i6), .val (.int i7), .val (.int i8), s9, s10, s11, s12, s13, s14, s15, s16] [(.int i7), (.int (0 : Int32)), (.ref b4), (.ref b4)])) rfl rfl (hb hby at_224)
  have V_b4_5 := Arv.set Ar_b4 q_b4 S_b4 N_b4 H_b4 G_b4 rfl W5 0 rfl (Nat.le_of_ble_eq_true rfl)      -- the array as it stands now (the place must lie among its first values: Arv.pad with pad_rep lengthens them)
  have K5 : Keep h0 h5 [] := K4.wr W5 (Or.inr sz_b4)
  have N5 := Fr.snoc X5 N0 g_b4
  obtain ⟨cl_b4_229, Ar_b4, q_b4, S_b4, N_b4, H_b4, G_b4⟩ := V_b4_5      -- open the array's fact as it stands now (its cell, kind, length, elements)
  have hin229 : ¬ ((1 : Int32) < 0 ∨ cl_b4_229.slots.size ≤ ((1 : Int32)).toNatClampNeg) := inb_of S_b4 ⟨by decide, by decide⟩
  obtain ⟨T6, h6, X6, e6, W6, st6⟩ := stI X5 hx hZ e5 Ar_b4 (j := (1 : Int32)) hin229 (g := (mkF m 229 #[s0, s1, s2, s3, s4, s5, .val (.int i6), .val (.int i7), .val (.int i8), s9, s10, s11, s12, s13, s14, s15, s16] [(.int i8), (.int (1 : Int32)), (.ref b4), (.ref b4)])) rfl rfl (hb hby at_229)
  have V_b4_6 := Arv.set Ar_b4 q_b4 S_b4 N_b4 H_b4 G_b4 rfl W6 1 rfl (Nat.le_of_ble_eq_true rfl)      -- the array as it stands now (the place must lie among its first values: Arv.pad with pad_rep lengthens them)
  have K6 : Keep h0 h6 [] := K5.wr W6 (Or.inr sz_b4)
  have N6 := Fr.snoc X6 N5 g_b4
  refine ⟨T6, _, _, b4, k4, X6, e6, N6, K6, V_b4_6, fun target kt => ?_⟩
  show Steps p.tables e below (T0.setTop (mkF m 179 #[s0, s1, s2, s3, s4, s5, .val (.int i6), .val (.int i7), .val (.int i8), s9, s10, s11, s12, s13, s14, s15, s16] [])) _
  refine XS.iload X0.here hx rfl (hb hby at_179) rfl ?_
  show Steps p.tables e below (T0.setTop (mkF m 181 #[s0, s1, s2, s3, s4, s5, .val (.int i6), .val (.int i7), .val (.int i8), s9, s10, s11, s12, s13, s14, s15, s16] [(.int i6)])) _
  refine XS.ifYes X0.here hx rfl (pc0 := 181) (pc' := 192) rfl (hb hby at_181) rfl ((if0 _ _).trans (feq hc181).2) (by decide) (by decide) ?_
  show Steps p.tables e below (T0.setTop (mkF m 192 #[s0, s1, s2, s3, s4, s5, .val (.int i6), .val (.int i7), .val (.int i8), s9, s10, s11, s12, s13, s14, s15, s16] [])) _
  refine XS.iload X0.here hx rfl (hb hby at_192) rfl ?_
  show Steps p.tables e below (T0.setTop (mkF m 194 #[s0, s1, s2, s3, s4, s5, .val (.int i6), .val (.int i7), .val (.int i8), s9, s10, s11, s12, s13, s14, s15, s16] [(.int i6)])) _
  refine XS.iconst X0.here hx rfl (hb hby at_194) ?_
  show Steps p.tables e below (T0.setTop (mkF m 195 #[s0, s1, s2, s3, s4, s5, .val (.int i6), .val (.int i7), .val (.int i8), s9, s10, s11, s12, s13, s14, s15, s16] [(.int (1 : Int32)), (.int i6)])) _
  refine XS.icmpYes X0.here hx rfl (pc0 := 195) (pc' := 211) rfl (hb hby at_195) rfl (feq hc195).2 (by decide) (by decide) ?_
  show Steps p.tables e below (T0.setTop (mkF m 211 #[s0, s1, s2, s3, s4, s5, .val (.int i6), .val (.int i7), .val (.int i8), s9, s10, s11, s12, s13, s14, s15, s16] [])) _
  refine XS.iload X0.here hx rfl (hb hby at_211) rfl ?_
  show Steps p.tables e below (T0.setTop (mkF m 213 #[s0, s1, s2, s3, s4, s5, .val (.int i6), .val (.int i7), .val (.int i8), s9, s10, s11, s12, s13, s14, s15, s16] [(.int i6)])) _
  refine XS.iconst X0.here hx rfl (hb hby at_213) ?_
  show Steps p.tables e below (T0.setTop (mkF m 214 #[s0, s1, s2, s3, s4, s5, .val (.int i6), .val (.int i7), .val (.int i8), s9, s10, s11, s12, s13, s14, s15, s16] [(.int (2 : Int32)), (.int i6)])) _
  refine XS.icmpNo X0.here hx rfl (hb hby at_214) rfl (teq hc214).2 ?_
  show Steps p.tables e below (T0.setTop (mkF m 217 #[s0, s1, s2, s3, s4, s5, .val (.int i6), .val (.int i7), .val (.int i8), s9, s10, s11, s12, s13, s14, s15, s16] [])) _
  refine XS.iconst X0.here hx rfl (hb hby at_217) ?_
  show Steps p.tables e below (T0.setTop (mkF m 218 #[s0, s1, s2, s3, s4, s5, .val (.int i6), .val (.int i7), .val (.int i8), s9, s10, s11, s12, s13, s14, s15, s16] [(.int (2 : Int32))])) _
  refine st4 _ ?_
  show Steps p.tables e below (T4.setTop (mkF m 220 #[s0, s1, s2, s3, s4, s5, .val (.int i6), .val (.int i7), .val (.int i8), s9, s10, s11, s12, s13, s14, s15, s16] [(.ref b4)])) _
  refine XS.dup X4.here hx rfl (hb hby at_220) rfl rfl ?_
  show Steps p.tables e below (T4.setTop (mkF m 221 #[s0, s1, s2, s3, s4, s5, .val (.int i6), .val (.int i7), .val (.int i8), s9, s10, s11, s12, s13, s14, s15, s16] [(.ref b4), (.ref b4)])) _
  refine XS.iconst X4.here hx rfl (hb hby at_221) ?_
  show Steps p.tables e below (T4.setTop (mkF m 222 #[s0, s1, s2, s3, s4, s5, .val (.int i6), .val (.int i7), .val (.int i8), s9, s10, s11, s12, s13, s14, s15, s16] [(.int (0 : Int32)), (.ref b4), (.ref b4)])) _
  refine XS.iload X4.here hx rfl (hb hby at_222) rfl ?_
  show Steps p.tables e below (T4.setTop (mkF m 224 #[s0, s1, s2, s3, s4, s5, .val (.int i6), .val (.int i7), .val (.int i8), s9, s10, s11, s12, s13, s14, s15, s16] [(.int i7), (.int (0 : Int32)), (.ref b4), (.ref b4)])) _
  refine st5 _ ?_
  show Steps p.tables e below (T5.setTop (mkF m 225 #[s0, s1, s2, s3, s4, s5, .val (.int i6), .val (.int i7), .val (.int i8), s9, s10, s11, s12, s13, s14, s15, s16] [(.ref b4)])) _
  refine XS.dup X5.here hx rfl (hb hby at_225) rfl rfl ?_
  show Steps p.tables e below (T5.setTop (mkF m 226 #[s0, s1, s2, s3, s4, s5, .val (.int i6), .val (.int i7), .val (.int i8), s9, s10, s11, s12, s13, s14, s15, s16] [(.ref b4), (.ref b4)])) _
  refine XS.iconst X5.here hx rfl (hb hby at_226) ?_
  show Steps p.tables e below (T5.setTop (mkF m 227 #[s0, s1, s2, s3, s4, s5, .val (.int i6), .val (.int i7), .val (.int i8), s9, s10, s11, s12, s13, s14, s15, s16] [(.int (1 : Int32)), (.ref b4), (.ref b4)])) _
  refine XS.iload X5.here hx rfl (hb hby at_227) rfl ?_
  show Steps p.tables e below (T5.setTop (mkF m 229 #[s0, s1, s2, s3, s4, s5, .val (.int i6), .val (.int i7), .val (.int i8), s9, s10, s11, s12, s13, s14, s15, s16] [(.int i8), (.int (1 : Int32)), (.ref b4), (.ref b4)])) _
  refine st6 _ ?_
  show Steps p.tables e below (T6.setTop (mkF m 230 #[s0, s1, s2, s3, s4, s5, .val (.int i6), .val (.int i7), .val (.int i8), s9, s10, s11, s12, s13, s14, s15, s16] [(.ref b4)])) _
  refine XS.astore X6.here hx rfl (hb hby at_230) rfl rfl (l' := #[s0, s1, s2, s3, s4, s5, .val (.int i6), .val (.int i7), .val (.int i8), s9, s10, .val (.ref b4), s12, s13, s14, s15, s16]) (os0_230 hs11) ?_
  show Steps p.tables e below (T6.setTop (mkF m 232 #[s0, s1, s2, s3, s4, s5, .val (.int i6), .val (.int i7), .val (.int i8), s9, s10, .val (.ref b4), s12, s13, s14, s15, s16] [])) _
  refine XS.goto X6.here hx rfl (pc0 := 232) (pc' := 289) rfl (hb hby at_232) (by decide) (by decide) ?_
  exact kt

set_option maxRecDepth 65536 in
set_option maxHeartbeats 40000000 in
theorem tnC_3 {p : Program} {l : Launch} {e : Env} {s : State} {m : MethodId} {args : Array Value} {below : List Frame} {meth : Method} {c : Code} {T0 : State} {locs : List Loc} {Z : State} {a0 : Array Value} {h0 : Heap} (s0 : Slot) (s1 : Slot) (s2 : Slot) (s3 : Slot) (s4 : Slot) (s5 : Slot) (i6 : Int32) (i7 : Int32) (i8 : Int32) (i9 : Int32) (s10 : Slot) (s11 : Slot) (s12 : Slot) (s13 : Slot) (s14 : Slot) (s15 : Slot) (s16 : Slot) (n0 : Nat)
    (X0 : Stand p l e room_1 s m args below meth c T0 locs 3 20) (hx : p.tables.exec = Jvm.exec) (hZ : Z.Warmed39 s.vm) (hw : ∀ d ∈ tables_1, d.before a0 Z = true) (hby : c.code = code) (hml : c.maxLocals = 17) (hown : s.vm.findClass "com/example/libpiecewise/libpiecewise/DfaRunPinLaw" = some m.cls) (e0 : T0.heap = h0) (Z0 : n0 ≤ h0.size) (N0 : Fr n0 locs) (hs11 : One s11) (hc181 : ¬ (i6 = (0 : Int32))) (hc195 : ¬ (i6 = (1 : Int32))) (hc214 : ¬ (i6 = (2 : Int32))) (hc238 : i6 = (3 : Int32)) :
    ∃ (T' : State) (h' : Heap) (locs' : List Loc) (b4 : Addr) (k4 : ClassId), Stand p l e room_1 s m args below meth c T' locs' 4 23 ∧ T'.heap = h' ∧ Fr n0 locs' ∧ Keep h0 h' [] ∧ Arv Z h' b4 k4 .int (3 : Int32) (([i7, i8, i9] : List Int32).map Value.int) (.int 0) ∧
      ∀ target, Steps p.tables e below (T'.setTop (mkF m 289 #[s0, s1, s2, s3, s4, s5, .val (.int i6), .val (.int i7), .val (.int i8), .val (.int i9), s10, .val (.ref b4), s12, s13, s14, s15, s16] [])) target → Steps p.tables e below (T0.setTop (mkF m 179 #[s0, s1, s2, s3, s4, s5, .val (.int i6), .val (.int i7), .val (.int i8), .val (.int i9), s10, s11, s12, s13, s14, s15, s16] [])) target := by
  obtain ⟨T4, h4, k4, X4, e4, E4, A4, st4⟩ := newP X0 hx hZ (hw _ (List.mem_of_getElem? (i := 0) rfl)) e0 (g := (mkF m 242 #[s0, s1, s2, s3, s4, s5, .val (.int i6), .val (.int i7), .val (.int i8), .val (.int i9), s10, s11, s12, s13, s14, s15, s16] [(.int (3 : Int32))])) rfl (hb hby at_242) rfl (by decide) (cap := 3) (by decide) (by decide) (by decide) (by decide)
  obtain ⟨b4, g4⟩ : ∃ z, z = h0.size := ⟨_, rfl⟩      -- the fresh array's address
  rw [← g4] at A4 st4
  have V_b4 : Arv Z h4 b4 k4 .int (3 : Int32) [(.int (0 : Int32)), (.int (0 : Int32)), (.int (0 : Int32))] (.int (0 : Int32)) := (Arv.new A4 (by decide)).pad (pad_rep [] (.int (0 : Int32)) 3)
  have g_b4 : n0 ≤ b4 := Nat.le_trans Z0 (Nat.le_of_eq g4.symm)
  have sz_b4 : h0.size ≤ b4 := (Nat.le_trans (Keep.refl h0 []).1 (Nat.le_of_eq g4.symm))
  have K4 : Keep h0 h4 [] := (Keep.refl h0 []).ext E4
  obtain ⟨cl_b4_248, Ar_b4, q_b4, S_b4, N_b4, H_b4, G_b4⟩ := V_b4      -- open the array's fact as it stands now (its cell, kind, length, elements)
  have hin248 : ¬ ((0 : Int32) < 0 ∨ cl_b4_248.slots.size ≤ ((0 : Int32)).toNatClampNeg) := inb_of S_b4 ⟨by decide, by decide⟩
  obtain ⟨T5, h5, X5, e5, W5, st5⟩ := stI X4 hx hZ e4 Ar_b4 (j := (0 : Int32)) hin248 (g := (mkF m 248 #[s0, s1, s2, s3, s4, s5, .val (.int i6), .val (.int i7), .val (.int i8), .val (.int i9), s10, s11, s12, s13, s14, s15, s16] [(.int i7), (.int (0 : Int32)), (.ref b4), (.ref b4)])) rfl rfl (hb hby at_248)
  have V_b4_5 := Arv.set Ar_b4 q_b4 S_b4 N_b4 H_b4 G_b4 rfl W5 0 rfl (Nat.le_of_ble_eq_true rfl)      -- the array as it stands now (the place must lie among its first values: Arv.pad with pad_rep lengthens them)
  have K5 : Keep h0 h5 [] := K4.wr W5 (Or.inr sz_b4)
  have N5 := Fr.snoc X5 N0 g_b4
  obtain ⟨cl_b4_253, Ar_b4, q_b4, S_b4, N_b4, H_b4, G_b4⟩ := V_b4_5      -- open the array's fact as it stands now (its cell, kind, length, elements)
  have hin253 : ¬ ((1 : Int32) < 0 ∨ cl_b4_253.slots.size ≤ ((1 : Int32)).toNatClampNeg) := inb_of S_b4 ⟨by decide, by decide⟩
  obtain ⟨T6, h6, X6, e6, W6, st6⟩ := stI X5 hx hZ e5 Ar_b4 (j := (1 : Int32)) hin253 (g := (mkF m 253 #[s0, s1, s2, s3, s4, s5, .val (.int i6), .val (.int i7), .val (.int i8), .val (.int i9), s10, s11, s12, s13, s14, s15, s16] [(.int i8), (.int (1 : Int32)), (.ref b4), (.ref b4)])) rfl rfl (hb hby at_253)
  have V_b4_6 := Arv.set Ar_b4 q_b4 S_b4 N_b4 H_b4 G_b4 rfl W6 1 rfl (Nat.le_of_ble_eq_true rfl)      -- the array as it stands now (the place must lie among its first values: Arv.pad with pad_rep lengthens them)
  have K6 : Keep h0 h6 [] := K5.wr W6 (Or.inr sz_b4)
  have N6 := Fr.snoc X6 N5 g_b4
  obtain ⟨cl_b4_258, Ar_b4, q_b4, S_b4, N_b4, H_b4, G_b4⟩ := V_b4_6      -- open the array's fact as it stands now (its cell, kind, length, elements)
  have hin258 : ¬ ((2 : Int32) < 0 ∨ cl_b4_258.slots.size ≤ ((2 : Int32)).toNatClampNeg) := inb_of S_b4 ⟨by decide, by decide⟩
  obtain ⟨T7, h7, X7, e7, W7, st7⟩ := stI X6 hx hZ e6 Ar_b4 (j := (2 : Int32)) hin258 (g := (mkF m 258 #[s0, s1, s2, s3, s4, s5, .val (.int i6), .val (.int i7), .val (.int i8), .val (.int i9), s10, s11, s12, s13, s14, s15, s16] [(.int i9), (.int (2 : Int32)), (.ref b4), (.ref b4)])) rfl rfl (hb hby at_258)
  have V_b4_7 := Arv.set Ar_b4 q_b4 S_b4 N_b4 H_b4 G_b4 rfl W7 2 rfl (Nat.le_of_ble_eq_true rfl)      -- the array as it stands now (the place must lie among its first values: Arv.pad with pad_rep lengthens them)
  have K7 : Keep h0 h7 [] := K6.wr W7 (Or.inr sz_b4)
  have N7 := Fr.snoc X7 N6 g_b4
  refine ⟨T7, _, _, b4, k4, X7, e7, N7, K7, V_b4_7, fun target kt => ?_⟩
  show Steps p.tables e below (T0.setTop (mkF m 179 #[s0, s1, s2, s3, s4, s5, .val (.int i6), .val (.int i7), .val (.int i8), .val (.int i9), s10, s11, s12, s13, s14, s15, s16] [])) _
  refine XS.iload X0.here hx rfl (hb hby at_179) rfl ?_
  show Steps p.tables e below (T0.setTop (mkF m 181 #[s0, s1, s2, s3, s4, s5, .val (.int i6), .val (.int i7), .val (.int i8), .val (.int i9), s10, s11, s12, s13, s14, s15, s16] [(.int i6)])) _
  refine XS.ifYes X0.here hx rfl (pc0 := 181) (pc' := 192) rfl (hb hby at_181) rfl ((if0 _ _).trans (feq hc181).2) (by decide) (by decide) ?_
  show Steps p.tables e below (T0.setTop (mkF m 192 #[s0, s1, s2, s3, s4, s5, .val (.int i6), .val (.int i7), .val (.int i8), .val (.int i9), s10, s11, s12, s13, s14, s15, s16] [])) _
  refine XS.iload X0.here hx rfl (hb hby at_192) rfl ?_
  show Steps p.tables e below (T0.setTop (mkF m 194 #[s0, s1, s2, s3, s4, s5, .val (.int i6), .val (.int i7), .val (.int i8), .val (.int i9), s10, s11, s12, s13, s14, s15, s16] [(.int i6)])) _
  refine XS.iconst X0.here hx rfl (hb hby at_194) ?_
  show Steps p.tables e below (T0.setTop (mkF m 195 #[s0, s1, s2, s3, s4, s5, .val (.int i6), .val (.int i7), .val (.int i8), .val (.int i9), s10, s11, s12, s13, s14, s15, s16] [(.int (1 : Int32)), (.int i6)])) _
  refine XS.icmpYes X0.here hx rfl (pc0 := 195) (pc' := 211) rfl (hb hby at_195) rfl (feq hc195).2 (by decide) (by decide) ?_
  show Steps p.tables e below (T0.setTop (mkF m 211 #[s0, s1, s2, s3, s4, s5, .val (.int i6), .val (.int i7), .val (.int i8), .val (.int i9), s10, s11, s12, s13, s14, s15, s16] [])) _
  refine XS.iload X0.here hx rfl (hb hby at_211) rfl ?_
  show Steps p.tables e below (T0.setTop (mkF m 213 #[s0, s1, s2, s3, s4, s5, .val (.int i6), .val (.int i7), .val (.int i8), .val (.int i9), s10, s11, s12, s13, s14, s15, s16] [(.int i6)])) _
  refine XS.iconst X0.here hx rfl (hb hby at_213) ?_
  show Steps p.tables e below (T0.setTop (mkF m 214 #[s0, s1, s2, s3, s4, s5, .val (.int i6), .val (.int i7), .val (.int i8), .val (.int i9), s10, s11, s12, s13, s14, s15, s16] [(.int (2 : Int32)), (.int i6)])) _
  refine XS.icmpYes X0.here hx rfl (pc0 := 214) (pc' := 235) rfl (hb hby at_214) rfl (feq hc214).2 (by decide) (by decide) ?_
  show Steps p.tables e below (T0.setTop (mkF m 235 #[s0, s1, s2, s3, s4, s5, .val (.int i6), .val (.int i7), .val (.int i8), .val (.int i9), s10, s11, s12, s13, s14, s15, s16] [])) _
  refine XS.iload X0.here hx rfl (hb hby at_235) rfl ?_
  show Steps p.tables e below (T0.setTop (mkF m 237 #[s0, s1, s2, s3, s4, s5, .val (.int i6), .val (.int i7), .val (.int i8), .val (.int i9), s10, s11, s12, s13, s14, s15, s16] [(.int i6)])) _
  refine XS.iconst X0.here hx rfl (hb hby at_237) ?_
  show Steps p.tables e below (T0.setTop (mkF m 238 #[s0, s1, s2, s3, s4, s5, .val (.int i6), .val (.int i7), .val (.int i8), .val (.int i9), s10, s11, s12, s13, s14, s15, s16] [(.int (3 : Int32)), (.int i6)])) _
  refine XS.icmpNo X0.here hx rfl (hb hby at_238) rfl (teq hc238).2 ?_
  show Steps p.tables e below (T0.setTop (mkF m 241 #[s0, s1, s2, s3, s4, s5, .val (.int i6), .val (.int i7), .val (.int i8), .val (.int i9), s10, s11, s12, s13, s14, s15, s16] [])) _
  refine XS.iconst X0.here hx rfl (hb hby at_241) ?_
  show Steps p.tables e below (T0.setTop (mkF m 242 #[s0, s1, s2, s3, s4, s5, .val (.int i6), .val (.int i7), .val (.int i8), .val (.int i9), s10, s11, s12, s13, s14, s15, s16] [(.int (3 : Int32))])) _
  refine st4 _ ?_
  show Steps p.tables e below (T4.setTop (mkF m 244 #[s0, s1, s2, s3, s4, s5, .val (.int i6), .val (.int i7), .val (.int i8), .val (.int i9), s10, s11, s12, s13, s14, s15, s16] [(.ref b4)])) _
  refine XS.dup X4.here hx rfl (hb hby at_244) rfl rfl ?_
  show Steps p.tables e below (T4.setTop (mkF m 245 #[s0, s1, s2, s3, s4, s5, .val (.int i6), .val (.int i7), .val (.int i8), .val (.int i9), s10, s11, s12, s13, s14, s15, s16] [(.ref b4), (.ref b4)])) _
  refine XS.iconst X4.here hx rfl (hb hby at_245) ?_
  show Steps p.tables e below (T4.setTop (mkF m 246 #[s0, s1, s2, s3, s4, s5, .val (.int i6), .val (.int i7), .val (.int i8), .val (.int i9), s10, s11, s12, s13, s14, s15, s16] [(.int (0 : Int32)), (.ref b4), (.ref b4)])) _
  refine XS.iload X4.here hx rfl (hb hby at_246) rfl ?_
  show Steps p.tables e below (T4.setTop (mkF m 248 #[s0, s1, s2, s3, s4, s5, .val (.int i6), .val (.int i7), .val (.int i8), .val (.int i9), s10, s11, s12, s13, s14, s15, s16] [(.int i7), (.int (0 : Int32)), (.ref b4), (.ref b4)])) _
  refine st5 _ ?_
  show Steps p.tables e below (T5.setTop (mkF m 249 #[s0, s1, s2, s3, s4, s5, .val (.int i6), .val (.int i7), .val (.int i8), .val (.int i9), s10, s11, s12, s13, s14, s15, s16] [(.ref b4)])) _
  refine XS.dup X5.here hx rfl (hb hby at_249) rfl rfl ?_
  show Steps p.tables e below (T5.setTop (mkF m 250 #[s0, s1, s2, s3, s4, s5, .val (.int i6), .val (.int i7), .val (.int i8), .val (.int i9), s10, s11, s12, s13, s14, s15, s16] [(.ref b4), (.ref b4)])) _
  refine XS.iconst X5.here hx rfl (hb hby at_250) ?_
  show Steps p.tables e below (T5.setTop (mkF m 251 #[s0, s1, s2, s3, s4, s5, .val (.int i6), .val (.int i7), .val (.int i8), .val (.int i9), s10, s11, s12, s13, s14, s15, s16] [(.int (1 : Int32)), (.ref b4), (.ref b4)])) _
  refine XS.iload X5.here hx rfl (hb hby at_251) rfl ?_
  show Steps p.tables e below (T5.setTop (mkF m 253 #[s0, s1, s2, s3, s4, s5, .val (.int i6), .val (.int i7), .val (.int i8), .val (.int i9), s10, s11, s12, s13, s14, s15, s16] [(.int i8), (.int (1 : Int32)), (.ref b4), (.ref b4)])) _
  refine st6 _ ?_
  show Steps p.tables e below (T6.setTop (mkF m 254 #[s0, s1, s2, s3, s4, s5, .val (.int i6), .val (.int i7), .val (.int i8), .val (.int i9), s10, s11, s12, s13, s14, s15, s16] [(.ref b4)])) _
  refine XS.dup X6.here hx rfl (hb hby at_254) rfl rfl ?_
  show Steps p.tables e below (T6.setTop (mkF m 255 #[s0, s1, s2, s3, s4, s5, .val (.int i6), .val (.int i7), .val (.int i8), .val (.int i9), s10, s11, s12, s13, s14, s15, s16] [(.ref b4), (.ref b4)])) _
  refine XS.iconst X6.here hx rfl (hb hby at_255) ?_
  show Steps p.tables e below (T6.setTop (mkF m 256 #[s0, s1, s2, s3, s4, s5, .val (.int i6), .val (.int i7), .val (.int i8), .val (.int i9), s10, s11, s12, s13, s14, s15, s16] [(.int (2 : Int32)), (.ref b4), (.ref b4)])) _
  refine XS.iload X6.here hx rfl (hb hby at_256) rfl ?_
  show Steps p.tables e below (T6.setTop (mkF m 258 #[s0, s1, s2, s3, s4, s5, .val (.int i6), .val (.int i7), .val (.int i8), .val (.int i9), s10, s11, s12, s13, s14, s15, s16] [(.int i9), (.int (2 : Int32)), (.ref b4), (.ref b4)])) _
  refine st7 _ ?_
  show Steps p.tables e below (T7.setTop (mkF m 259 #[s0, s1, s2, s3, s4, s5, .val (.int i6), .val (.int i7), .val (.int i8), .val (.int i9), s10, s11, s12, s13, s14, s15, s16] [(.ref b4)])) _
  refine XS.astore X7.here hx rfl (hb hby at_259) rfl rfl (l' := #[s0, s1, s2, s3, s4, s5, .val (.int i6), .val (.int i7), .val (.int i8), .val (.int i9), s10, .val (.ref b4), s12, s13, s14, s15, s16]) (os0_259 hs11) ?_
  show Steps p.tables e below (T7.setTop (mkF m 261 #[s0, s1, s2, s3, s4, s5, .val (.int i6), .val (.int i7), .val (.int i8), .val (.int i9), s10, .val (.ref b4), s12, s13, s14, s15, s16] [])) _
  refine XS.goto X7.here hx rfl (pc0 := 261) (pc' := 289) rfl (hb hby at_261) (by decide) (by decide) ?_
  exact kt

set_option maxRecDepth 65536 in
set_option maxHeartbeats 40000000 in
theorem tnC_4 {p : Program} {l : Launch} {e : Env} {s : State} {m : MethodId} {args : Array Value} {below : List Frame} {meth : Method} {c : Code} {T0 : State} {locs : List Loc} {Z : State} {a0 : Array Value} {h0 : Heap} (s0 : Slot) (s1 : Slot) (s2 : Slot) (s3 : Slot) (s4 : Slot) (s5 : Slot) (i6 : Int32) (i7 : Int32) (i8 : Int32) (i9 : Int32) (i10 : Int32) (s11 : Slot) (s12 : Slot) (s13 : Slot) (s14 : Slot) (s15 : Slot) (s16 : Slot) (n0 : Nat)
    (X0 : Stand p l e room_1 s m args below meth c T0 locs 3 20) (hx : p.tables.exec = Jvm.exec) (hZ : Z.Warmed39 s.vm) (hw : ∀ d ∈ tables_1, d.before a0 Z = true) (hby : c.code = code) (hml : c.maxLocals = 17) (hown : s.vm.findClass "com/example/libpiecewise/libpiecewise/DfaRunPinLaw" = some m.cls) (e0 : T0.heap = h0) (Z0 : n0 ≤ h0.size) (N0 : Fr n0 locs) (hs11 : One s11) (hc181 : ¬ (i6 = (0 : Int32))) (hc195 : ¬ (i6 = (1 : Int32))) (hc214 : ¬ (i6 = (2 : Int32))) (hc238 : ¬ (i6 = (3 : Int32))) :
    ∃ (T' : State) (h' : Heap) (locs' : List Loc) (b4 : Addr) (k4 : ClassId), Stand p l e room_1 s m args below meth c T' locs' 4 24 ∧ T'.heap = h' ∧ Fr n0 locs' ∧ Keep h0 h' [] ∧ Arv Z h' b4 k4 .int (4 : Int32) (([i7, i8, i9, i10] : List Int32).map Value.int) (.int 0) ∧
      ∀ target, Steps p.tables e below (T'.setTop (mkF m 289 #[s0, s1, s2, s3, s4, s5, .val (.int i6), .val (.int i7), .val (.int i8), .val (.int i9), .val (.int i10), .val (.ref b4), s12, s13, s14, s15, s16] [])) target → Steps p.tables e below (T0.setTop (mkF m 179 #[s0, s1, s2, s3, s4, s5, .val (.int i6), .val (.int i7), .val (.int i8), .val (.int i9), .val (.int i10), s11, s12, s13, s14, s15, s16] [])) target := by
  obtain ⟨T4, h4, k4, X4, e4, E4, A4, st4⟩ := newP X0 hx hZ (hw _ (List.mem_of_getElem? (i := 0) rfl)) e0 (g := (mkF m 265 #[s0, s1, s2, s3, s4, s5, .val (.int i6), .val (.int i7), .val (.int i8), .val (.int i9), .val (.int i10), s11, s12, s13, s14, s15, s16] [(.int (4 : Int32))])) rfl (hb hby at_265) rfl (by decide) (cap := 4) (by decide) (by decide) (by decide) (by decide)
  obtain ⟨b4, g4⟩ : ∃ z, z = h0.size := ⟨_, rfl⟩      -- the fresh array's address
  rw [← g4] at A4 st4
  have V_b4 : Arv Z h4 b4 k4 .int (4 : Int32) [(.int (0 : Int32)), (.int (0 : Int32)), (.int (0 : Int32)), (.int (0 : Int32))] (.int (0 : Int32)) := (Arv.new A4 (by decide)).pad (pad_rep [] (.int (0 : Int32)) 4)
  have g_b4 : n0 ≤ b4 := Nat.le_trans Z0 (Nat.le_of_eq g4.symm)
  have sz_b4 : h0.size ≤ b4 := (Nat.le_trans (Keep.refl h0 []).1 (Nat.le_of_eq g4.symm))
  have K4 : Keep h0 h4 [] := (Keep.refl h0 []).ext E4
  obtain ⟨cl_b4_271, Ar_b4, q_b4, S_b4, N_b4, H_b4, G_b4⟩ := V_b4      -- open the array's fact as it stands now (its cell, kind, length, elements)
  have hin271 : ¬ ((0 : Int32) < 0 ∨ cl_b4_271.slots.size ≤ ((0 : Int32)).toNatClampNeg) := inb_of S_b4 ⟨by decide, by decide⟩
  obtain ⟨T5, h5, X5, e5, W5, st5⟩ := stI X4 hx hZ e4 Ar_b4 (j := (0 : Int32)) hin271 (g := (mkF m 271 #[s0, s1, s2, s3, s4, s5, .val (.int i6), .val (.int i7), .val (.int i8), .val (.int i9), .val (.int i10), s11, s12, s13, s14, s15, s16] [(.int i7), (.int (0 : Int32)), (.ref b4), (.ref b4)])) rfl rfl (hb hby at_271)
  have V_b4_5 := Arv.set Ar_b4 q_b4 S_b4 N_b4 H_b4 G_b4 rfl W5 0 rfl (Nat.le_of_ble_eq_true rfl)      -- the array as it stands now (the place must lie among its first values: Arv.pad with pad_rep lengthens them)
  have K5 : Keep h0 h5 [] := K4.wr W5 (Or.inr sz_b4)
  have N5 := Fr.snoc X5 N0 g_b4
  obtain ⟨cl_b4_276, Ar_b4, q_b4, S_b4, N_b4, H_b4, G_b4⟩ := V_b4_5      -- open the array's fact as it stands now (its cell, kind, length, elements)
  have hin276 : ¬ ((1 : Int32) < 0 ∨ cl_b4_276.slots.size ≤ ((1 : Int32)).toNatClampNeg) := inb_of S_b4 ⟨by decide, by decide⟩
  obtain ⟨T6, h6, X6, e6, W6, st6⟩ := stI X5 hx hZ e5 Ar_b4 (j := (1 : Int32)) hin276 (g := (mkF m 276 #[s0, s1, s2, s3, s4, s5, .val (.int i6), .val (.int i7), .val (.int i8), .val (.int i9), .val (.int i10), s11, s12, s13, s14, s15, s16] [(.int i8), (.int (1 : Int32)), (.ref b4), (.ref b4)])) rfl rfl (hb hby at_276)
  have V_b4_6 := Arv.set Ar_b4 q_b4 S_b4 N_b4 H_b4 G_b4 rfl W6 1 rfl (Nat.le_of_ble_eq_true rfl)      -- the array as it stands now (the place must lie among its first values: Arv.pad with pad_rep lengthens them)
  have K6 : Keep h0 h6 [] := K5.wr W6 (Or.inr sz_b4)
  have N6 := Fr.snoc X6 N5 g_b4
  obtain ⟨cl_b4_281, Ar_b4, q_b4, S_b4, N_b4, H_b4, G_b4⟩ := V_b4_6      -- open the array's fact as it stands now (its cell, kind, length, elements)
  have hin281 : ¬ ((2 : Int32) < 0 ∨ cl_b4_281.slots.size ≤ ((2 : Int32)).toNatClampNeg) := inb_of S_b4 ⟨by decide, by decide⟩
  obtain ⟨T7, h7, X7, e7, W7, st7⟩ := stI X6 hx hZ e6 Ar_b4 (j := (2 : Int32)) hin281 (g := (mkF m 281 #[s0, s1, s2, s3, s4, s5, .val (.int i6), .val (.int i7), .val (.int i8), .val (.int i9), .val (.int i10), s11, s12, s13, s14, s15, s16] [(.int i9), (.int (2 : Int32)), (.ref b4), (.ref b4)])) rfl rfl (hb hby at_281)
  have V_b4_7 := Arv.set Ar_b4 q_b4 S_b4 N_b4 H_b4 G_b4 rfl W7 2 rfl (Nat.le_of_ble_eq_true rfl)      -- the array as it stands now (the place must lie among its first values: Arv.pad with pad_rep lengthens them)
  have K7 : Keep h0 h7 [] := K6.wr W7 (Or.inr sz_b4)
  have N7 := Fr.snoc X7 N6 g_b4
  obtain ⟨cl_b4_286, Ar_b4, q_b4, S_b4, N_b4, H_b4, G_b4⟩ := V_b4_7      -- open the array's fact as it stands now (its cell, kind, length, elements)
  have hin286 : ¬ ((3 : Int32) < 0 ∨ cl_b4_286.slots.size ≤ ((3 : Int32)).toNatClampNeg) := inb_of S_b4 ⟨by decide, by decide⟩
  obtain ⟨T8, h8, X8, e8, W8, st8⟩ := stI X7 hx hZ e7 Ar_b4 (j := (3 : Int32)) hin286 (g := (mkF m 286 #[s0, s1, s2, s3, s4, s5, .val (.int i6), .val (.int i7), .val (.int i8), .val (.int i9), .val (.int i10), s11, s12, s13, s14, s15, s16] [(.int i10), (.int (3 : Int32)), (.ref b4), (.ref b4)])) rfl rfl (hb hby at_286)
  have V_b4_8 := Arv.set Ar_b4 q_b4 S_b4 N_b4 H_b4 G_b4 rfl W8 3 rfl (Nat.le_of_ble_eq_true rfl)      -- the array as it stands now (the place must lie among its first values: Arv.pad with pad_rep lengthens them)
  have K8 : Keep h0 h8 [] := K7.wr W8 (Or.inr sz_b4)
  have N8 := Fr.snoc X8 N7 g_b4
  refine ⟨T8, _, _, b4, k4, X8, e8, N8, K8, V_b4_8, fun target kt => ?_⟩
  show Steps p.tables e below (T0.setTop (mkF m 179 #[s0, s1, s2, s3, s4, s5, .val (.int i6), .val (.int i7), .val (.int i8), .val (.int i9), .val (.int i10), s11, s12, s13, s14, s15, s16] [])) _
  refine XS.iload X0.here hx rfl (hb hby at_179) rfl ?_
  show Steps p.tables e below (T0.setTop (mkF m 181 #[s0, s1, s2, s3, s4, s5, .val (.int i6), .val (.int i7), .val (.int i8), .val (.int i9), .val (.int i10), s11, s12, s13, s14, s15, s16] [(.int i6)])) _
  refine XS.ifYes X0.here hx rfl (pc0 := 181) (pc' := 192) rfl (hb hby at_181) rfl ((if0 _ _).trans (feq hc181).2) (by decide) (by decide) ?_
  show Steps p.tables e below (T0.setTop (mkF m 192 #[s0, s1, s2, s3, s4, s5, .val (.int i6), .val (.int i7), .val (.int i8), .val (.int i9), .val (.int i10), s11, s12, s13, s14, s15, s16] [])) _
  refine XS.iload X0.here hx rfl (hb hby at_192) rfl ?_
  show Steps p.tables e below (T0.setTop (mkF m 194 #[s0, s1, s2, s3, s4, s5, .val (.int i6), .val (.int i7), .val (.int i8), .val (.int i9), .val (.int i10), s11, s12, s13, s14, s15, s16] [(.int i6)])) _
  refine XS.iconst X0.here hx rfl (hb hby at_194) ?_
  show Steps p.tables e below (T0.setTop (mkF m 195 #[s0, s1, s2, s3, s4, s5, .val (.int i6), .val (.int i7), .val (.int i8), .val (.int i9), .val (.int i10), s11, s12, s13, s14, s15, s16] [(.int (1 : Int32)), (.int i6)])) _
  refine XS.icmpYes X0.here hx rfl (pc0 := 195) (pc' := 211) rfl (hb hby at_195) rfl (feq hc195).2 (by decide) (by decide) ?_
  show Steps p.tables e below (T0.setTop (mkF m 211 #[s0, s1, s2, s3, s4, s5, .val (.int i6), .val (.int i7), .val (.int i8), .val (.int i9), .val (.int i10), s11, s12, s13, s14, s15, s16] [])) _
  refine XS.iload X0.here hx rfl (hb hby at_211) rfl ?_
  show Steps p.tables e below (T0.setTop (mkF m 213 #[s0, s1, s2, s3, s4, s5, .val (.int i6), .val (.int i7), .val (.int i8), .val (.int i9), .val (.int i10), s11, s12, s13, s14, s15, s16] [(.int i6)])) _
  refine XS.iconst X0.here hx rfl (hb hby at_213) ?_
  show Steps p.tables e below (T0.setTop (mkF m 214 #[s0, s1, s2, s3, s4, s5, .val (.int i6), .val (.int i7), .val (.int i8), .val (.int i9), .val (.int i10), s11, s12, s13, s14, s15, s16] [(.int (2 : Int32)), (.int i6)])) _
  refine XS.icmpYes X0.here hx rfl (pc0 := 214) (pc' := 235) rfl (hb hby at_214) rfl (feq hc214).2 (by decide) (by decide) ?_
  show Steps p.tables e below (T0.setTop (mkF m 235 #[s0, s1, s2, s3, s4, s5, .val (.int i6), .val (.int i7), .val (.int i8), .val (.int i9), .val (.int i10), s11, s12, s13, s14, s15, s16] [])) _
  refine XS.iload X0.here hx rfl (hb hby at_235) rfl ?_
  show Steps p.tables e below (T0.setTop (mkF m 237 #[s0, s1, s2, s3, s4, s5, .val (.int i6), .val (.int i7), .val (.int i8), .val (.int i9), .val (.int i10), s11, s12, s13, s14, s15, s16] [(.int i6)])) _
  refine XS.iconst X0.here hx rfl (hb hby at_237) ?_
  show Steps p.tables e below (T0.setTop (mkF m 238 #[s0, s1, s2, s3, s4, s5, .val (.int i6), .val (.int i7), .val (.int i8), .val (.int i9), .val (.int i10), s11, s12, s13, s14, s15, s16] [(.int (3 : Int32)), (.int i6)])) _
  refine XS.icmpYes X0.here hx rfl (pc0 := 238) (pc' := 264) rfl (hb hby at_238) rfl (feq hc238).2 (by decide) (by decide) ?_
  show Steps p.tables e below (T0.setTop (mkF m 264 #[s0, s1, s2, s3, s4, s5, .val (.int i6), .val (.int i7), .val (.int i8), .val (.int i9), .val (.int i10), s11, s12, s13, s14, s15, s16] [])) _
  refine XS.iconst X0.here hx rfl (hb hby at_264) ?_
  show Steps p.tables e below (T0.setTop (mkF m 265 #[s0, s1, s2, s3, s4, s5, .val (.int i6), .val (.int i7), .val (.int i8), .val (.int i9), .val (.int i10), s11, s12, s13, s14, s15, s16] [(.int (4 : Int32))])) _
  refine st4 _ ?_
  show Steps p.tables e below (T4.setTop (mkF m 267 #[s0, s1, s2, s3, s4, s5, .val (.int i6), .val (.int i7), .val (.int i8), .val (.int i9), .val (.int i10), s11, s12, s13, s14, s15, s16] [(.ref b4)])) _
  refine XS.dup X4.here hx rfl (hb hby at_267) rfl rfl ?_
  show Steps p.tables e below (T4.setTop (mkF m 268 #[s0, s1, s2, s3, s4, s5, .val (.int i6), .val (.int i7), .val (.int i8), .val (.int i9), .val (.int i10), s11, s12, s13, s14, s15, s16] [(.ref b4), (.ref b4)])) _
  refine XS.iconst X4.here hx rfl (hb hby at_268) ?_
  show Steps p.tables e below (T4.setTop (mkF m 269 #[s0, s1, s2, s3, s4, s5, .val (.int i6), .val (.int i7), .val (.int i8), .val (.int i9), .val (.int i10), s11, s12, s13, s14, s15, s16] [(.int (0 : Int32)), (.ref b4), (.ref b4)])) _
  refine XS.iload X4.here hx rfl (hb hby at_269) rfl ?_
  show Steps p.tables e below (T4.setTop (mkF m 271 #[s0, s1, s2, s3, s4, s5, .val (.int i6), .val (.int i7), .val (.int i8), .val (.int i9), .val (.int i10), s11, s12, s13, s14, s15, s16] [(.int i7), (.int (0 : Int32)), (.ref b4), (.ref b4)])) _
  refine st5 _ ?_
  show Steps p.tables e below (T5.setTop (mkF m 272 #[s0, s1, s2, s3, s4, s5, .val (.int i6), .val (.int i7), .val (.int i8), .val (.int i9), .val (.int i10), s11, s12, s13, s14, s15, s16] [(.ref b4)])) _
  refine XS.dup X5.here hx rfl (hb hby at_272) rfl rfl ?_
  show Steps p.tables e below (T5.setTop (mkF m 273 #[s0, s1, s2, s3, s4, s5, .val (.int i6), .val (.int i7), .val (.int i8), .val (.int i9), .val (.int i10), s11, s12, s13, s14, s15, s16] [(.ref b4), (.ref b4)])) _
  refine XS.iconst X5.here hx rfl (hb hby at_273) ?_
  show Steps p.tables e below (T5.setTop (mkF m 274 #[s0, s1, s2, s3, s4, s5, .val (.int i6), .val (.int i7), .val (.int i8), .val (.int i9), .val (.int i10), s11, s12, s13, s14, s15, s16] [(.int (1 : Int32)), (.ref b4), (.ref b4)])) _
  refine XS.iload X5.here hx rfl (hb hby at_274) rfl ?_
  show Steps p.tables e below (T5.setTop (mkF m 276 #[s0, s1, s2, s3, s4, s5, .val (.int i6), .val (.int i7), .val (.int i8), .val (.int i9), .val (.int i10), s11, s12, s13, s14, s15, s16] [(.int i8), (.int (1 : Int32)), (.ref b4), (.ref b4)])) _
  refine st6 _ ?_
  show Steps p.tables e below (T6.setTop (mkF m 277 #[s0, s1, s2, s3, s4, s5, .val (.int i6), .val (.int i7), .val (.int i8), .val (.int i9), .val (.int i10), s11, s12, s13, s14, s15, s16] [(.ref b4)])) _
  refine XS.dup X6.here hx rfl (hb hby at_277) rfl rfl ?_
  show Steps p.tables e below (T6.setTop (mkF m 278 #[s0, s1, s2, s3, s4, s5, .val (.int i6), .val (.int i7), .val (.int i8), .val (.int i9), .val (.int i10), s11, s12, s13, s14, s15, s16] [(.ref b4), (.ref b4)])) _
  refine XS.iconst X6.here hx rfl (hb hby at_278) ?_
  show Steps p.tables e below (T6.setTop (mkF m 279 #[s0, s1, s2, s3, s4, s5, .val (.int i6), .val (.int i7), .val (.int i8), .val (.int i9), .val (.int i10), s11, s12, s13, s14, s15, s16] [(.int (2 : Int32)), (.ref b4), (.ref b4)])) _
  refine XS.iload X6.here hx rfl (hb hby at_279) rfl ?_
  show Steps p.tables e below (T6.setTop (mkF m 281 #[s0, s1, s2, s3, s4, s5, .val (.int i6), .val (.int i7), .val (.int i8), .val (.int i9), .val (.int i10), s11, s12, s13, s14, s15, s16] [(.int i9), (.int (2 : Int32)), (.ref b4), (.ref b4)])) _
  refine st7 _ ?_
  show Steps p.tables e below (T7.setTop (mkF m 282 #[s0, s1, s2, s3, s4, s5, .val (.int i6), .val (.int i7), .val (.int i8), .val (.int i9), .val (.int i10), s11, s12, s13, s14, s15, s16] [(.ref b4)])) _
  refine XS.dup X7.here hx rfl (hb hby at_282) rfl rfl ?_
  show Steps p.tables e below (T7.setTop (mkF m 283 #[s0, s1, s2, s3, s4, s5, .val (.int i6), .val (.int i7), .val (.int i8), .val (.int i9), .val (.int i10), s11, s12, s13, s14, s15, s16] [(.ref b4), (.ref b4)])) _
  refine XS.iconst X7.here hx rfl (hb hby at_283) ?_
  show Steps p.tables e below (T7.setTop (mkF m 284 #[s0, s1, s2, s3, s4, s5, .val (.int i6), .val (.int i7), .val (.int i8), .val (.int i9), .val (.int i10), s11, s12, s13, s14, s15, s16] [(.int (3 : Int32)), (.ref b4), (.ref b4)])) _
  refine XS.iload X7.here hx rfl (hb hby at_284) rfl ?_
  show Steps p.tables e below (T7.setTop (mkF m 286 #[s0, s1, s2, s3, s4, s5, .val (.int i6), .val (.int i7), .val (.int i8), .val (.int i9), .val (.int i10), s11, s12, s13, s14, s15, s16] [(.int i10), (.int (3 : Int32)), (.ref b4), (.ref b4)])) _
  refine st8 _ ?_
  show Steps p.tables e below (T8.setTop (mkF m 287 #[s0, s1, s2, s3, s4, s5, .val (.int i6), .val (.int i7), .val (.int i8), .val (.int i9), .val (.int i10), s11, s12, s13, s14, s15, s16] [(.ref b4)])) _
  refine XS.astore X8.here hx rfl (hb hby at_287) rfl rfl (l' := #[s0, s1, s2, s3, s4, s5, .val (.int i6), .val (.int i7), .val (.int i8), .val (.int i9), .val (.int i10), .val (.ref b4), s12, s13, s14, s15, s16]) (os0_287 hs11) ?_
  exact kt

set_option maxRecDepth 65536 in
set_option maxHeartbeats 40000000 in
theorem tn0_289_329 {p : Program} {l : Launch} {e : Env} {s : State} {m : MethodId} {args : Array Value} {below : List Frame} {meth : Method} {c : Code} {T0 : State} {locs : List Loc} {slots : Nat} {Z : State} {a0 : Array Value} {h0 : Heap} (i0 : Int32) (s1 : Slot) (s2 : Slot) (s3 : Slot) (s4 : Slot) (i5 : Int32) (s6 : Slot) (i7 : Int32) (i8 : Int32) (i9 : Int32) (i10 : Int32) (s11 : Slot) (s12 : Slot) (s13 : Slot) (s14 : Slot) (s15 : Slot) (s16 : Slot) (n0 : Nat)
    (X0 : Stand p l e room_1 s m args below meth c T0 locs 4 slots) (hx : p.tables.exec = Jvm.exec) (hZ : Z.Warmed39 s.vm) (hw : ∀ d ∈ tables_1, d.before a0 Z = true) (hby : c.code = code) (hml : c.maxLocals = 17) (hown : s.vm.findClass "com/example/libpiecewise/libpiecewise/DfaRunPinLaw" = some m.cls) (e0 : T0.heap = h0) (Z0 : n0 ≤ h0.size) (N0 : Fr n0 locs) (hsl : slots ≤ 24) (hs12 : One s12) (hs13 : One s13) (hs14 : One s14) (hs15 : One s15) :
    ∃ (T' : State) (locs' : List Loc), Stand p l e room_1 s m args below meth c T' locs' 4 slots ∧ T'.heap = h0 ∧ Fr n0 locs' ∧
      ∀ target, Steps p.tables e below (T'.setTop (mkF m 329 #[.val (.int i0), s1, s2, s3, s4, .val (.int i5), s6, .val (.int i7), .val (.int i8), .val (.int i9), .val (.int i10), s11, .val (.int (own_delta i0 i5 i7)), .val (.int (own_delta i0 (own_delta i0 i5 i7) i8)), .val (.int (own_delta i0 (own_delta i0 (own_delta i0 i5 i7) i8) i9)), .val (.int (own_delta i0 (own_delta i0 (own_delta i0 (own_delta i0 i5 i7) i8) i9) i10)), s16] [])) target → Steps p.tables e below (T0.setTop (mkF m 289 #[.val (.int i0), s1, s2, s3, s4, .val (.int i5), s6, .val (.int i7), .val (.int i8), .val (.int i9), .val (.int i10), s11, s12, s13, s14, s15, s16] [])) target := by
  obtain ⟨_, _, ⟨T4, L4, k4, n4⟩, -, X4, ⟨Lc4, hQ4, l4, y4, z4⟩, st4⟩ := Jvm.LawKit.callS X0 hx (y := (⟨"com/example/libpiecewise/libpiecewise/DfaRunPinLaw", "delta", "(III)I"⟩ : MethodName)) hown (mvT hZ (hw _ (List.mem_of_getElem? (i := 23) rfl))) (mvT hZ (hw _ (List.mem_of_getElem? (i := 24) rfl))) (mvT hZ (hw _ (List.mem_of_getElem? (i := 3) rfl))) (mvT hZ (hw _ (List.mem_of_getElem? (i := 25) rfl))) (by decide) (backOf (W := 0) (rm4 l Z a0 hw [] i0 i5 i7  h0 n0 Z0) hZ (hw _ (List.mem_of_getElem? (i := 25) rfl)) (hw _ (List.mem_of_getElem? (i := 3) rfl)) (by decide) (by decide)) (g := (mkF m 294 #[.val (.int i0), s1, s2, s3, s4, .val (.int i5), s6, .val (.int i7), .val (.int i8), .val (.int i9), .val (.int i10), s11, s12, s13, s14, s15, s16] [(.int i7), (.int i5), (.int i0)])) rfl (by rw [hml]; rfl) (argsL := [(.int i0), (.int i5), (.int i7)]) (rest := []) (lenOf pd_0_3 rfl) rfl (by show 2 * 0 + _ ≤ _; exact Nat.le_of_eq rfl) (hb hby at_294) (fun _ _ => ⟨rfl, e0, (by decide : 4 + 0 ≤ _), (Nat.le_trans hsl (by decide))⟩)
  dsimp only [Pt.U, Pt.locs, Pt.cells, Pt.slots] at X4 l4 y4 z4 st4 hQ4
  subst l4 y4 z4
  obtain ⟨rfl, N4q, e4⟩ := hQ4      -- what it returned, that it wrote nothing old, and the rest of your Q4
  have N4 := Fr.app N0 N4q
  have q4 : T4.heap = h0 := e4
  obtain ⟨_, _, ⟨T5, L5, k5, n5⟩, -, X5, ⟨Lc5, hQ5, l5, y5, z5⟩, st5⟩ := Jvm.LawKit.callS X4 hx (y := (⟨"com/example/libpiecewise/libpiecewise/DfaRunPinLaw", "delta", "(III)I"⟩ : MethodName)) hown (mvT hZ (hw _ (List.mem_of_getElem? (i := 23) rfl))) (mvT hZ (hw _ (List.mem_of_getElem? (i := 24) rfl))) (mvT hZ (hw _ (List.mem_of_getElem? (i := 3) rfl))) (mvT hZ (hw _ (List.mem_of_getElem? (i := 25) rfl))) (by decide) (backOf (W := 0) (rm4 l Z a0 hw [] i0 (own_delta i0 i5 i7) i8  T4.heap n0 (by rw [q4]; exact Z0)) hZ (hw _ (List.mem_of_getElem? (i := 25) rfl)) (hw _ (List.mem_of_getElem? (i := 3) rfl)) (by decide) (by decide)) (g := (mkF m 304 #[.val (.int i0), s1, s2, s3, s4, .val (.int i5), s6, .val (.int i7), .val (.int i8), .val (.int i9), .val (.int i10), s11, .val (.int (own_delta i0 i5 i7)), s13, s14, s15, s16] [(.int i8), (.int (own_delta i0 i5 i7)), (.int i0)])) rfl (by rw [hml]; rfl) (argsL := [(.int i0), (.int (own_delta i0 i5 i7)), (.int i8)]) (rest := []) (lenOf pd_0_3 rfl) rfl (by show 2 * 0 + _ ≤ _; exact Nat.le_of_eq rfl) (hb hby at_304) (fun _ _ => ⟨rfl, rfl, (by decide : 4 + 0 ≤ _), (Nat.le_trans hsl (by decide))⟩)
  dsimp only [Pt.U, Pt.locs, Pt.cells, Pt.slots] at X5 l5 y5 z5 st5 hQ5
  subst l5 y5 z5
  obtain ⟨rfl, N5q, e5⟩ := hQ5      -- what it returned, that it wrote nothing old, and the rest of your Q4
  have N5 := Fr.app N4 N5q
  have q5 : T5.heap = h0 := e5.trans q4
  obtain ⟨_, _, ⟨T6, L6, k6, n6⟩, -, X6, ⟨Lc6, hQ6, l6, y6, z6⟩, st6⟩ := Jvm.LawKit.callS X5 hx (y := (⟨"com/example/libpiecewise/libpiecewise/DfaRunPinLaw", "delta", "(III)I"⟩ : MethodName)) hown (mvT hZ (hw _ (List.mem_of_getElem? (i := 23) rfl))) (mvT hZ (hw _ (List.mem_of_getElem? (i := 24) rfl))) (mvT hZ (hw _ (List.mem_of_getElem? (i := 3) rfl))) (mvT hZ (hw _ (List.mem_of_getElem? (i := 25) rfl))) (by decide) (backOf (W := 0) (rm4 l Z a0 hw [] i0 (own_delta i0 (own_delta i0 i5 i7) i8) i9  T5.heap n0 (by rw [q5]; exact Z0)) hZ (hw _ (List.mem_of_getElem? (i := 25) rfl)) (hw _ (List.mem_of_getElem? (i := 3) rfl)) (by decide) (by decide)) (g := (mkF m 314 #[.val (.int i0), s1, s2, s3, s4, .val (.int i5), s6, .val (.int i7), .val (.int i8), .val (.int i9), .val (.int i10), s11, .val (.int (own_delta i0 i5 i7)), .val (.int (own_delta i0 (own_delta i0 i5 i7) i8)), s14, s15, s16] [(.int i9), (.int (own_delta i0 (own_delta i0 i5 i7) i8)), (.int i0)])) rfl (by rw [hml]; rfl) (argsL := [(.int i0), (.int (own_delta i0 (own_delta i0 i5 i7) i8)), (.int i9)]) (rest := []) (lenOf pd_0_3 rfl) rfl (by show 2 * 0 + _ ≤ _; exact Nat.le_of_eq rfl) (hb hby at_314) (fun _ _ => ⟨rfl, rfl, (by decide : 4 + 0 ≤ _), (Nat.le_trans hsl (by decide))⟩)
  dsimp only [Pt.U, Pt.locs, Pt.cells, Pt.slots] at X6 l6 y6 z6 st6 hQ6
  subst l6 y6 z6
  obtain ⟨rfl, N6q, e6⟩ := hQ6      -- what it returned, that it wrote nothing old, and the rest of your Q4
  have N6 := Fr.app N5 N6q
  have q6 : T6.heap = h0 := e6.trans q5
  obtain ⟨_, _, ⟨T7, L7, k7, n7⟩, -, X7, ⟨Lc7, hQ7, l7, y7, z7⟩, st7⟩ := Jvm.LawKit.callS X6 hx (y := (⟨"com/example/libpiecewise/libpiecewise/DfaRunPinLaw", "delta", "(III)I"⟩ : MethodName)) hown (mvT hZ (hw _ (List.mem_of_getElem? (i := 23) rfl))) (mvT hZ (hw _ (List.mem_of_getElem? (i := 24) rfl))) (mvT hZ (hw _ (List.mem_of_getElem? (i := 3) rfl))) (mvT hZ (hw _ (List.mem_of_getElem? (i := 25) rfl))) (by decide) (backOf (W := 0) (rm4 l Z a0 hw [] i0 (own_delta i0 (own_delta i0 (own_delta i0 i5 i7) i8) i9) i10  T6.heap n0 (by rw [q6]; exact Z0)) hZ (hw _ (List.mem_of_getElem? (i := 25) rfl)) (hw _ (List.mem_of_getElem? (i := 3) rfl)) (by decide) (by decide)) (g := (mkF m 324 #[.val (.int i0), s1, s2, s3, s4, .val (.int i5), s6, .val (.int i7), .val (.int i8), .val (.int i9), .val (.int i10), s11, .val (.int (own_delta i0 i5 i7)), .val (.int (own_delta i0 (own_delta i0 i5 i7) i8)), .val (.int (own_delta i0 (own_delta i0 (own_delta i0 i5 i7) i8) i9)), s15, s16] [(.int i10), (.int (own_delta i0 (own_delta i0 (own_delta i0 i5 i7) i8) i9)), (.int i0)])) rfl (by rw [hml]; rfl) (argsL := [(.int i0), (.int (own_delta i0 (own_delta i0 (own_delta i0 i5 i7) i8) i9)), (.int i10)]) (rest := []) (lenOf pd_0_3 rfl) rfl (by show 2 * 0 + _ ≤ _; exact Nat.le_of_eq rfl) (hb hby at_324) (fun _ _ => ⟨rfl, rfl, (by decide : 4 + 0 ≤ _), (Nat.le_trans hsl (by decide))⟩)
  dsimp only [Pt.U, Pt.locs, Pt.cells, Pt.slots] at X7 l7 y7 z7 st7 hQ7
  subst l7 y7 z7
  obtain ⟨rfl, N7q, e7⟩ := hQ7      -- what it returned, that it wrote nothing old, and the rest of your Q4
  have N7 := Fr.app N6 N7q
  have q7 : T7.heap = h0 := e7.trans q6
  refine ⟨T7, _, X7, q7, N7, fun target kt => ?_⟩
  show Steps p.tables e below (T0.setTop (mkF m 289 #[.val (.int i0), s1, s2, s3, s4, .val (.int i5), s6, .val (.int i7), .val (.int i8), .val (.int i9), .val (.int i10), s11, s12, s13, s14, s15, s16] [])) _
  refine XS.iloadN X0.here hx rfl (hb hby at_289) rfl ?_
  show Steps p.tables e below (T0.setTop (mkF m 290 #[.val (.int i0), s1, s2, s3, s4, .val (.int i5), s6, .val (.int i7), .val (.int i8), .val (.int i9), .val (.int i10), s11, s12, s13, s14, s15, s16] [(.int i0)])) _
  refine XS.iload X0.here hx rfl (hb hby at_290) rfl ?_
  show Steps p.tables e below (T0.setTop (mkF m 292 #[.val (.int i0), s1, s2, s3, s4, .val (.int i5), s6, .val (.int i7), .val (.int i8), .val (.int i9), .val (.int i10), s11, s12, s13, s14, s15, s16] [(.int i5), (.int i0)])) _
  refine XS.iload X0.here hx rfl (hb hby at_292) rfl ?_
  show Steps p.tables e below (T0.setTop (mkF m 294 #[.val (.int i0), s1, s2, s3, s4, .val (.int i5), s6, .val (.int i7), .val (.int i8), .val (.int i9), .val (.int i10), s11, s12, s13, s14, s15, s16] [(.int i7), (.int i5), (.int i0)])) _
  refine st4 _ ?_
  show Steps p.tables e below (T4.setTop (mkF m 297 #[.val (.int i0), s1, s2, s3, s4, .val (.int i5), s6, .val (.int i7), .val (.int i8), .val (.int i9), .val (.int i10), s11, s12, s13, s14, s15, s16] [(.int (own_delta i0 i5 i7))])) _
  refine XS.istore X4.here hx rfl (hb hby at_297) rfl (l' := #[.val (.int i0), s1, s2, s3, s4, .val (.int i5), s6, .val (.int i7), .val (.int i8), .val (.int i9), .val (.int i10), s11, .val (.int (own_delta i0 i5 i7)), s13, s14, s15, s16]) (os0_297 hs12) ?_
  show Steps p.tables e below (T4.setTop (mkF m 299 #[.val (.int i0), s1, s2, s3, s4, .val (.int i5), s6, .val (.int i7), .val (.int i8), .val (.int i9), .val (.int i10), s11, .val (.int (own_delta i0 i5 i7)), s13, s14, s15, s16] [])) _
  refine XS.iloadN X4.here hx rfl (hb hby at_299) rfl ?_
  show Steps p.tables e below (T4.setTop (mkF m 300 #[.val (.int i0), s1, s2, s3, s4, .val (.int i5), s6, .val (.int i7), .val (.int i8), .val (.int i9), .val (.int i10), s11, .val (.int (own_delta i0 i5 i7)), s13, s14, s15, s16] [(.int i0)])) _
  refine XS.iload X4.here hx rfl (hb hby at_300) rfl ?_
  show Steps p.tables e below (T4.setTop (mkF m 302 #[.val (.int i0), s1, s2, s3, s4, .val (.int i5), s6, .val (.int i7), .val (.int i8), .val (.int i9), .val (.int i10), s11, .val (.int (own_delta i0 i5 i7)), s13, s14, s15, s16] [(.int (own_delta i0 i5 i7)), (.int i0)])) _
  refine XS.iload X4.here hx rfl (hb hby at_302) rfl ?_
  show Steps p.tables e below (T4.setTop (mkF m 304 #[.val (.int i0), s1, s2, s3, s4, .val (.int i5), s6, .val (.int i7), .val (.int i8), .val (.int i9), .val (.int i10), s11, .val (.int (own_delta i0 i5 i7)), s13, s14, s15, s16] [(.int i8), (.int (own_delta i0 i5 i7)), (.int i0)])) _
  refine st5 _ ?_
  show Steps p.tables e below (T5.setTop (mkF m 307 #[.val (.int i0), s1, s2, s3, s4, .val (.int i5), s6, .val (.int i7), .val (.int i8), .val (.int i9), .val (.int i10), s11, .val (.int (own_delta i0 i5 i7)), s13, s14, s15, s16] [(.int (own_delta i0 (own_delta i0 i5 i7) i8))])) _
  refine XS.istore X5.here hx rfl (hb hby at_307) rfl (l' := #[.val (.int i0), s1, s2, s3, s4, .val (.int i5), s6, .val (.int i7), .val (.int i8), .val (.int i9), .val (.int i10), s11, .val (.int (own_delta i0 i5 i7)), .val (.int (own_delta i0 (own_delta i0 i5 i7) i8)), s14, s15, s16]) (os0_307 hs13) ?_
  show Steps p.tables e below (T5.setTop (mkF m 309 #[.val (.int i0), s1, s2, s3, s4, .val (.int i5), s6, .val (.int i7), .val (.int i8), .val (.int i9), .val (.int i10), s11, .val (.int (own_delta i0 i5 i7)), .val (.int (own_delta i0 (own_delta i0 i5 i7) i8)), s14, s15, s16] [])) _
  refine XS.iloadN X5.here hx rfl (hb hby at_309) rfl ?_
  show Steps p.tables e below (T5.setTop (mkF m 310 #[.val (.int i0), s1, s2, s3, s4, .val (.int i5), s6, .val (.int i7), .val (.int i8), .val (.int i9), .val (.int i10), s11, .val (.int (own_delta i0 i5 i7)), .val (.int (own_delta i0 (own_delta i0 i5 i7) i8)), s14, s15, s16] [(.int i0)])) _
  refine XS.iload X5.here hx rfl (hb hby at_310) rfl ?_
  show Steps p.tables e below (T5.setTop (mkF m 312 #[.val (.int i0), s1, s2, s3, s4, .val (.int i5), s6, .val (.int i7), .val (.int i8), .val (.int i9), .val (.int i10), s11, .val (.int (own_delta i0 i5 i7)), .val (.int (own_delta i0 (own_delta i0 i5 i7) i8)), s14, s15, s16] [(.int (own_delta i0 (own_delta i0 i5 i7) i8)), (.int i0)])) _
  refine XS.iload X5.here hx rfl (hb hby at_312) rfl ?_
  show Steps p.tables e below (T5.setTop (mkF m 314 #[.val (.int i0), s1, s2, s3, s4, .val (.int i5), s6, .val (.int i7), .val (.int i8), .val (.int i9), .val (.int i10), s11, .val (.int (own_delta i0 i5 i7)), .val (.int (own_delta i0 (own_delta i0 i5 i7) i8)), s14, s15, s16] [(.int i9), (.int (own_delta i0 (own_delta i0 i5 i7) i8)), (.int i0)])) _
  refine st6 _ ?_
  show Steps p.tables e below (T6.setTop (mkF m 317 #[.val (.int i0), s1, s2, s3, s4, .val (.int i5), s6, .val (.int i7), .val (.int i8), .val (.int i9), .val (.int i10), s11, .val (.int (own_delta i0 i5 i7)), .val (.int (own_delta i0 (own_delta i0 i5 i7) i8)), s14, s15, s16] [(.int (own_delta i0 (own_delta i0 (own_delta i0 i5 i7) i8) i9))])) _
  refine XS.istore X6.here hx rfl (hb hby at_317) rfl (l' := #[.val (.int i0), s1, s2, s3, s4, .val (.int i5), s6, .val (.int i7), .val (.int i8), .val (.int i9), .val (.int i10), s11, .val (.int (own_delta i0 i5 i7)), .val (.int (own_delta i0 (own_delta i0 i5 i7) i8)), .val (.int (own_delta i0 (own_delta i0 (own_delta i0 i5 i7) i8) i9)), s15, s16]) (os0_317 hs14) ?_
  show Steps p.tables e below (T6.setTop (mkF m 319 #[.val (.int i0), s1, s2, s3, s4, .val (.int i5), s6, .val (.int i7), .val (.int i8), .val (.int i9), .val (.int i10), s11, .val (.int (own_delta i0 i5 i7)), .val (.int (own_delta i0 (own_delta i0 i5 i7) i8)), .val (.int (own_delta i0 (own_delta i0 (own_delta i0 i5 i7) i8) i9)), s15, s16] [])) _
  refine XS.iloadN X6.here hx rfl (hb hby at_319) rfl ?_
  show Steps p.tables e below (T6.setTop (mkF m 320 #[.val (.int i0), s1, s2, s3, s4, .val (.int i5), s6, .val (.int i7), .val (.int i8), .val (.int i9), .val (.int i10), s11, .val (.int (own_delta i0 i5 i7)), .val (.int (own_delta i0 (own_delta i0 i5 i7) i8)), .val (.int (own_delta i0 (own_delta i0 (own_delta i0 i5 i7) i8) i9)), s15, s16] [(.int i0)])) _
  refine XS.iload X6.here hx rfl (hb hby at_320) rfl ?_
  show Steps p.tables e below (T6.setTop (mkF m 322 #[.val (.int i0), s1, s2, s3, s4, .val (.int i5), s6, .val (.int i7), .val (.int i8), .val (.int i9), .val (.int i10), s11, .val (.int (own_delta i0 i5 i7)), .val (.int (own_delta i0 (own_delta i0 i5 i7) i8)), .val (.int (own_delta i0 (own_delta i0 (own_delta i0 i5 i7) i8) i9)), s15, s16] [(.int (own_delta i0 (own_delta i0 (own_delta i0 i5 i7) i8) i9)), (.int i0)])) _
  refine XS.iload X6.here hx rfl (hb hby at_322) rfl ?_
  show Steps p.tables e below (T6.setTop (mkF m 324 #[.val (.int i0), s1, s2, s3, s4, .val (.int i5), s6, .val (.int i7), .val (.int i8), .val (.int i9), .val (.int i10), s11, .val (.int (own_delta i0 i5 i7)), .val (.int (own_delta i0 (own_delta i0 i5 i7) i8)), .val (.int (own_delta i0 (own_delta i0 (own_delta i0 i5 i7) i8) i9)), s15, s16] [(.int i10), (.int (own_delta i0 (own_delta i0 (own_delta i0 i5 i7) i8) i9)), (.int i0)])) _
  refine st7 _ ?_
  show Steps p.tables e below (T7.setTop (mkF m 327 #[.val (.int i0), s1, s2, s3, s4, .val (.int i5), s6, .val (.int i7), .val (.int i8), .val (.int i9), .val (.int i10), s11, .val (.int (own_delta i0 i5 i7)), .val (.int (own_delta i0 (own_delta i0 i5 i7) i8)), .val (.int (own_delta i0 (own_delta i0 (own_delta i0 i5 i7) i8) i9)), s15, s16] [(.int (own_delta i0 (own_delta i0 (own_delta i0 (own_delta i0 i5 i7) i8) i9) i10))])) _
  refine XS.istore X7.here hx rfl (hb hby at_327) rfl (l' := #[.val (.int i0), s1, s2, s3, s4, .val (.int i5), s6, .val (.int i7), .val (.int i8), .val (.int i9), .val (.int i10), s11, .val (.int (own_delta i0 i5 i7)), .val (.int (own_delta i0 (own_delta i0 i5 i7) i8)), .val (.int (own_delta i0 (own_delta i0 (own_delta i0 i5 i7) i8) i9)), .val (.int (own_delta i0 (own_delta i0 (own_delta i0 (own_delta i0 i5 i7) i8) i9) i10)), s16]) (os0_327 hs15) ?_
  exact kt

set_option maxRecDepth 65536 in
set_option maxHeartbeats 40000000 in
theorem tnE_0 {p : Program} {l : Launch} {e : Env} {R : Room} {s : State} {m : MethodId} {args : Array Value} {below : List Frame} {meth : Method} {c : Code} {T0 : State} {locs : List Loc} {cells slots : Nat} {Z : State} {a0 : Array Value} {h0 : Heap} (s0 : Slot) (s1 : Slot) (s2 : Slot) (s3 : Slot) (s4 : Slot) (i5 : Int32) (i6 : Int32) (s7 : Slot) (s8 : Slot) (s9 : Slot) (s10 : Slot) (s11 : Slot) (s12 : Slot) (s13 : Slot) (s14 : Slot) (s15 : Slot) (s16 : Slot)
    (X0 : Stand p l e R s m args below meth c T0 locs cells slots) (hx : p.tables.exec = Jvm.exec) (hZ : Z.Warmed39 s.vm) (hw : ∀ d ∈ tables_1, d.before a0 Z = true) (hby : c.code = code) (hml : c.maxLocals = 17) (hown : s.vm.findClass "com/example/libpiecewise/libpiecewise/DfaRunPinLaw" = some m.cls) (e0 : T0.heap = h0) (hs16 : One s16) (hc331 : i6 = (0 : Int32)) :
    ∃ (T' : State), Stand p l e R s m args below meth c T' locs cells slots ∧ T'.heap = h0 ∧
      ∀ target, Steps p.tables e below (T'.setTop (mkF m 384 #[s0, s1, s2, s3, s4, .val (.int i5), .val (.int i6), s7, s8, s9, s10, s11, s12, s13, s14, s15, .val (.int i5)] [])) target → Steps p.tables e below (T0.setTop (mkF m 329 #[s0, s1, s2, s3, s4, .val (.int i5), .val (.int i6), s7, s8, s9, s10, s11, s12, s13, s14, s15, s16] [])) target := by

  refine ⟨T0, X0, e0, fun target kt => ?_⟩
  show Steps p.tables e below (T0.setTop (mkF m 329 #[s0, s1, s2, s3, s4, .val (.int i5), .val (.int i6), s7, s8, s9, s10, s11, s12, s13, s14, s15, s16] [])) _
  refine XS.iload X0.here hx rfl (hb hby at_329) rfl ?_
  show Steps p.tables e below (T0.setTop (mkF m 331 #[s0, s1, s2, s3, s4, .val (.int i5), .val (.int i6), s7, s8, s9, s10, s11, s12, s13, s14, s15, s16] [(.int i6)])) _
  refine XS.ifNo X0.here hx rfl (hb hby at_331) rfl ((if0 _ _).trans (teq hc331).2) ?_
  show Steps p.tables e below (T0.setTop (mkF m 334 #[s0, s1, s2, s3, s4, .val (.int i5), .val (.int i6), s7, s8, s9, s10, s11, s12, s13, s14, s15, s16] [])) _
  refine XS.iload X0.here hx rfl (hb hby at_334) rfl ?_
  show Steps p.tables e below (T0.setTop (mkF m 336 #[s0, s1, s2, s3, s4, .val (.int i5), .val (.int i6), s7, s8, s9, s10, s11, s12, s13, s14, s15, s16] [(.int i5)])) _
  refine XS.istore X0.here hx rfl (hb hby at_336) rfl (l' := #[s0, s1, s2, s3, s4, .val (.int i5), .val (.int i6), s7, s8, s9, s10, s11, s12, s13, s14, s15, .val (.int i5)]) (os0_336 hs16) ?_
  show Steps p.tables e below (T0.setTop (mkF m 338 #[s0, s1, s2, s3, s4, .val (.int i5), .val (.int i6), s7, s8, s9, s10, s11, s12, s13, s14, s15, .val (.int i5)] [])) _
  refine XS.goto X0.here hx rfl (pc0 := 338) (pc' := 384) rfl (hb hby at_338) (by decide) (by decide) ?_
  exact kt

set_option maxRecDepth 65536 in
set_option maxHeartbeats 40000000 in
theorem tnE_1 {p : Program} {l : Launch} {e : Env} {R : Room} {s : State} {m : MethodId} {args : Array Value} {below : List Frame} {meth : Method} {c : Code} {T0 : State} {locs : List Loc} {cells slots : Nat} {Z : State} {a0 : Array Value} {h0 : Heap} (s0 : Slot) (s1 : Slot) (s2 : Slot) (s3 : Slot) (s4 : Slot) (s5 : Slot) (i6 : Int32) (s7 : Slot) (s8 : Slot) (s9 : Slot) (s10 : Slot) (s11 : Slot) (i12 : Int32) (s13 : Slot) (s14 : Slot) (s15 : Slot) (s16 : Slot)
    (X0 : Stand p l e R s m args below meth c T0 locs cells slots) (hx : p.tables.exec = Jvm.exec) (hZ : Z.Warmed39 s.vm) (hw : ∀ d ∈ tables_1, d.before a0 Z = true) (hby : c.code = code) (hml : c.maxLocals = 17) (hown : s.vm.findClass "com/example/libpiecewise/libpiecewise/DfaRunPinLaw" = some m.cls) (e0 : T0.heap = h0) (hs16 : One s16) (hc331 : ¬ (i6 = (0 : Int32))) (hc344 : i6 = (1 : Int32)) :
    ∃ (T' : State), Stand p l e R s m args below meth c T' locs cells slots ∧ T'.heap = h0 ∧
      ∀ target, Steps p.tables e below (T'.setTop (mkF m 384 #[s0, s1, s2, s3, s4, s5, .val (.int i6), s7, s8, s9, s10, s11, .val (.int i12), s13, s14, s15, .val (.int i12)] [])) target → Steps p.tables e below (T0.setTop (mkF m 329 #[s0, s1, s2, s3, s4, s5, .val (.int i6), s7, s8, s9, s10, s11, .val (.int i12), s13, s14, s15, s16] [])) target := by

  refine ⟨T0, X0, e0, fun target kt => ?_⟩
  show Steps p.tables e below (T0.setTop (mkF m 329 #[s0, s1, s2, s3, s4, s5, .val (.int i6), s7, s8, s9, s10, s11, .val (.int i12), s13, s14, s15, s16] [])) _
  refine XS.iload X0.here hx rfl (hb hby at_329) rfl ?_
  show Steps p.tables e below (T0.setTop (mkF m 331 #[s0, s1, s2, s3, s4, s5, .val (.int i6), s7, s8, s9, s10, s11, .val (.int i12), s13, s14, s15, s16] [(.int i6)])) _
  refine XS.ifYes X0.here hx rfl (pc0 := 331) (pc' := 341) rfl (hb hby at_331) rfl ((if0 _ _).trans (feq hc331).2) (by decide) (by decide) ?_
  show Steps p.tables e below (T0.setTop (mkF m 341 #[s0, s1, s2, s3, s4, s5, .val (.int i6), s7, s8, s9, s10, s11, .val (.int i12), s13, s14, s15, s16] [])) _
  refine XS.iload X0.here hx rfl (hb hby at_341) rfl ?_
  show Steps p.tables e below (T0.setTop (mkF m 343 #[s0, s1, s2, s3, s4, s5, .val (.int i6), s7, s8, s9, s10, s11, .val (.int i12), s13, s14, s15, s16] [(.int i6)])) _
  refine XS.iconst X0.here hx rfl (hb hby at_343) ?_
  show Steps p.tables e below (T0.setTop (mkF m 344 #[s0, s1, s2, s3, s4, s5, .val (.int i6), s7, s8, s9, s10, s11, .val (.int i12), s13, s14, s15, s16] [(.int (1 : Int32)), (.int i6)])) _
  refine XS.icmpNo X0.here hx rfl (hb hby at_344) rfl (teq hc344).2 ?_
  show Steps p.tables e below (T0.setTop (mkF m 347 #[s0, s1, s2, s3, s4, s5, .val (.int i6), s7, s8, s9, s10, s11, .val (.int i12), s13, s14, s15, s16] [])) _
  refine XS.iload X0.here hx rfl (hb hby at_347) rfl ?_
  show Steps p.tables e below (T0.setTop (mkF m 349 #[s0, s1, s2, s3, s4, s5, .val (.int i6), s7, s8, s9, s10, s11, .val (.int i12), s13, s14, s15, s16] [(.int i12)])) _
  refine XS.istore X0.here hx rfl (hb hby at_349) rfl (l' := #[s0, s1, s2, s3, s4, s5, .val (.int i6), s7, s8, s9, s10, s11, .val (.int i12), s13, s14, s15, .val (.int i12)]) (os0_349 hs16) ?_
  show Steps p.tables e below (T0.setTop (mkF m 351 #[s0, s1, s2, s3, s4, s5, .val (.int i6), s7, s8, s9, s10, s11, .val (.int i12), s13, s14, s15, .val (.int i12)] [])) _
  refine XS.goto X0.here hx rfl (pc0 := 351) (pc' := 384) rfl (hb hby at_351) (by decide) (by decide) ?_
  exact kt

set_option maxRecDepth 65536 in
set_option maxHeartbeats 40000000 in
theorem tnE_2 {p : Program} {l : Launch} {e : Env} {R : Room} {s : State} {m : MethodId} {args : Array Value} {below : List Frame} {meth : Method} {c : Code} {T0 : State} {locs : List Loc} {cells slots : Nat} {Z : State} {a0 : Array Value} {h0 : Heap} (s0 : Slot) (s1 : Slot) (s2 : Slot) (s3 : Slot) (s4 : Slot) (s5 : Slot) (i6 : Int32) (s7 : Slot) (s8 : Slot) (s9 : Slot) (s10 : Slot) (s11 : Slot) (s12 : Slot) (i13 : Int32) (s14 : Slot) (s15 : Slot) (s16 : Slot)
    (X0 : Stand p l e R s m args below meth c T0 locs cells slots) (hx : p.tables.exec = Jvm.exec) (hZ : Z.Warmed39 s.vm) (hw : ∀ d ∈ tables_1, d.before a0 Z = true) (hby : c.code = code) (hml : c.maxLocals = 17) (hown : s.vm.findClass "com/example/libpiecewise/libpiecewise/DfaRunPinLaw" = some m.cls) (e0 : T0.heap = h0) (hs16 : One s16) (hc331 : ¬ (i6 = (0 : Int32))) (hc344 : ¬ (i6 = (1 : Int32))) (hc357 : i6 = (2 : Int32)) :
    ∃ (T' : State), Stand p l e R s m args below meth c T' locs cells slots ∧ T'.heap = h0 ∧
      ∀ target, Steps p.tables e below (T'.setTop (mkF m 384 #[s0, s1, s2, s3, s4, s5, .val (.int i6), s7, s8, s9, s10, s11, s12, .val (.int i13), s14, s15, .val (.int i13)] [])) target → Steps p.tables e below (T0.setTop (mkF m 329 #[s0, s1, s2, s3, s4, s5, .val (.int i6), s7, s8, s9, s10, s11, s12, .val (.int i13), s14, s15, s16] [])) target := by

  refine ⟨T0, X0, e0, fun target kt => ?_⟩
  show Steps p.tables e below (T0.setTop (mkF m 329 #[s0, s1, s2, s3, s4, s5, .val (.int i6), s7, s8, s9, s10, s11, s12, .val (.int i13), s14, s15, s16] [])) _
  refine XS.iload X0.here hx rfl (hb hby at_329) rfl ?_
  show Steps p.tables e below (T0.setTop (mkF m 331 #[s0, s1, s2, s3, s4, s5, .val (.int i6), s7, s8, s9, s10, s11, s12, .val (.int i13), s14, s15, s16] [(.int i6)])) _
  refine XS.ifYes X0.here hx rfl (pc0 := 331) (pc' := 341) rfl (hb hby at_331) rfl ((if0 _ _).trans (feq hc331).2) (by decide) (by decide) ?_
  show Steps p.tables e below (T0.setTop (mkF m 341 #[s0, s1, s2, s3, s4, s5, .val (.int i6), s7, s8, s9, s10, s11, s12, .val (.int i13), s14, s15, s16] [])) _
  refine XS.iload X0.here hx rfl (hb hby at_341) rfl ?_
  show Steps p.tables e below (T0.setTop (mkF m 343 #[s0, s1, s2, s3, s4, s5, .val (.int i6), s7, s8, s9, s10, s11, s12, .val (.int i13), s14, s15, s16] [(.int i6)])) _
  refine XS.iconst X0.here hx rfl (hb hby at_343) ?_
  show Steps p.tables e below (T0.setTop (mkF m 344 #[s0, s1, s2, s3, s4, s5, .val (.int i6), s7, s8, s9, s10, s11, s12, .val (.int i13), s14, s15, s16] [(.int (1 : Int32)), (.int i6)])) _
  refine XS.icmpYes X0.here hx rfl (pc0 := 344) (pc' := 354) rfl (hb hby at_344) rfl (feq hc344).2 (by decide) (by decide) ?_
  show Steps p.tables e below (T0.setTop (mkF m 354 #[s0, s1, s2, s3, s4, s5, .val (.int i6), s7, s8, s9, s10, s11, s12, .val (.int i13), s14, s15, s16] [])) _
  refine XS.iload X0.here hx rfl (hb hby at_354) rfl ?_
  show Steps p.tables e below (T0.setTop (mkF m 356 #[s0, s1, s2, s3, s4, s5, .val (.int i6), s7, s8, s9, s10, s11, s12, .val (.int i13), s14, s15, s16] [(.int i6)])) _
  refine XS.iconst X0.here hx rfl (hb hby at_356) ?_
  show Steps p.tables e below (T0.setTop (mkF m 357 #[s0, s1, s2, s3, s4, s5, .val (.int i6), s7, s8, s9, s10, s11, s12, .val (.int i13), s14, s15, s16] [(.int (2 : Int32)), (.int i6)])) _
  refine XS.icmpNo X0.here hx rfl (hb hby at_357) rfl (teq hc357).2 ?_
  show Steps p.tables e below (T0.setTop (mkF m 360 #[s0, s1, s2, s3, s4, s5, .val (.int i6), s7, s8, s9, s10, s11, s12, .val (.int i13), s14, s15, s16] [])) _
  refine XS.iload X0.here hx rfl (hb hby at_360) rfl ?_
  show Steps p.tables e below (T0.setTop (mkF m 362 #[s0, s1, s2, s3, s4, s5, .val (.int i6), s7, s8, s9, s10, s11, s12, .val (.int i13), s14, s15, s16] [(.int i13)])) _
  refine XS.istore X0.here hx rfl (hb hby at_362) rfl (l' := #[s0, s1, s2, s3, s4, s5, .val (.int i6), s7, s8, s9, s10, s11, s12, .val (.int i13), s14, s15, .val (.int i13)]) (os0_362 hs16) ?_
  show Steps p.tables e below (T0.setTop (mkF m 364 #[s0, s1, s2, s3, s4, s5, .val (.int i6), s7, s8, s9, s10, s11, s12, .val (.int i13), s14, s15, .val (.int i13)] [])) _
  refine XS.goto X0.here hx rfl (pc0 := 364) (pc' := 384) rfl (hb hby at_364) (by decide) (by decide) ?_
  exact kt

set_option maxRecDepth 65536 in
set_option maxHeartbeats 40000000 in
theorem tnE_3 {p : Program} {l : Launch} {e : Env} {R : Room} {s : State} {m : MethodId} {args : Array Value} {below : List Frame} {meth : Method} {c : Code} {T0 : State} {locs : List Loc} {cells slots : Nat} {Z : State} {a0 : Array Value} {h0 : Heap} (s0 : Slot) (s1 : Slot) (s2 : Slot) (s3 : Slot) (s4 : Slot) (s5 : Slot) (i6 : Int32) (s7 : Slot) (s8 : Slot) (s9 : Slot) (s10 : Slot) (s11 : Slot) (s12 : Slot) (s13 : Slot) (i14 : Int32) (s15 : Slot) (s16 : Slot)
    (X0 : Stand p l e R s m args below meth c T0 locs cells slots) (hx : p.tables.exec = Jvm.exec) (hZ : Z.Warmed39 s.vm) (hw : ∀ d ∈ tables_1, d.before a0 Z = true) (hby : c.code = code) (hml : c.maxLocals = 17) (hown : s.vm.findClass "com/example/libpiecewise/libpiecewise/DfaRunPinLaw" = some m.cls) (e0 : T0.heap = h0) (hs16 : One s16) (hc331 : ¬ (i6 = (0 : Int32))) (hc344 : ¬ (i6 = (1 : Int32))) (hc357 : ¬ (i6 = (2 : Int32))) (hc370 : i6 = (3 : Int32)) :
    ∃ (T' : State), Stand p l e R s m args below meth c T' locs cells slots ∧ T'.heap = h0 ∧
      ∀ target, Steps p.tables e below (T'.setTop (mkF m 384 #[s0, s1, s2, s3, s4, s5, .val (.int i6), s7, s8, s9, s10, s11, s12, s13, .val (.int i14), s15, .val (.int i14)] [])) target → Steps p.tables e below (T0.setTop (mkF m 329 #[s0, s1, s2, s3, s4, s5, .val (.int i6), s7, s8, s9, s10, s11, s12, s13, .val (.int i14), s15, s16] [])) target := by

  refine ⟨T0, X0, e0, fun target kt => ?_⟩
  show Steps p.tables e below (T0.setTop (mkF m 329 #[s0, s1, s2, s3, s4, s5, .val (.int i6), s7, s8, s9, s10, s11, s12, s13, .val (.int i14), s15, s16] [])) _
  refine XS.iload X0.here hx rfl (hb hby at_329) rfl ?_
  show Steps p.tables e below (T0.setTop (mkF m 331 #[s0, s1, s2, s3, s4, s5, .val (.int i6), s7, s8, s9, s10, s11, s12, s13, .val (.int i14), s15, s16] [(.int i6)])) _
  refine XS.ifYes X0.here hx rfl (pc0 := 331) (pc' := 341) rfl (hb hby at_331) rfl ((if0 _ _).trans (feq hc331).2) (by decide) (by decide) ?_
  show Steps p.tables e below (T0.setTop (mkF m 341 #[s0, s1, s2, s3, s4, s5, .val (.int i6), s7, s8, s9, s10, s11, s12, s13, .val (.int i14), s15, s16] [])) _
  refine XS.iload X0.here hx rfl (hb hby at_341) rfl ?_
  show Steps p.tables e below (T0.setTop (mkF m 343 #[s0, s1, s2, s3, s4, s5, .val (.int i6), s7, s8, s9, s10, s11, s12, s13, .val (.int i14), s15, s16] [(.int i6)])) _
  refine XS.iconst X0.here hx rfl (hb hby at_343) ?_
  show Steps p.tables e below (T0.setTop (mkF m 344 #[s0, s1, s2, s3, s4, s5, .val (.int i6), s7, s8, s9, s10, s11, s12, s13, .val (.int i14), s15, s16] [(.int (1 : Int32)), (.int i6)])) _
  refine XS.icmpYes X0.here hx rfl (pc0 := 344) (pc' := 354) rfl (hb hby at_344) rfl (feq hc344).2 (by decide) (by decide) ?_
  show Steps p.tables e below (T0.setTop (mkF m 354 #[s0, s1, s2, s3, s4, s5, .val (.int i6), s7, s8, s9, s10, s11, s12, s13, .val (.int i14), s15, s16] [])) _
  refine XS.iload X0.here hx rfl (hb hby at_354) rfl ?_
  show Steps p.tables e below (T0.setTop (mkF m 356 #[s0, s1, s2, s3, s4, s5, .val (.int i6), s7, s8, s9, s10, s11, s12, s13, .val (.int i14), s15, s16] [(.int i6)])) _
  refine XS.iconst X0.here hx rfl (hb hby at_356) ?_
  show Steps p.tables e below (T0.setTop (mkF m 357 #[s0, s1, s2, s3, s4, s5, .val (.int i6), s7, s8, s9, s10, s11, s12, s13, .val (.int i14), s15, s16] [(.int (2 : Int32)), (.int i6)])) _
  refine XS.icmpYes X0.here hx rfl (pc0 := 357) (pc' := 367) rfl (hb hby at_357) rfl (feq hc357).2 (by decide) (by decide) ?_
  show Steps p.tables e below (T0.setTop (mkF m 367 #[s0, s1, s2, s3, s4, s5, .val (.int i6), s7, s8, s9, s10, s11, s12, s13, .val (.int i14), s15, s16] [])) _
  refine XS.iload X0.here hx rfl (hb hby at_367) rfl ?_
  show Steps p.tables e below (T0.setTop (mkF m 369 #[s0, s1, s2, s3, s4, s5, .val (.int i6), s7, s8, s9, s10, s11, s12, s13, .val (.int i14), s15, s16] [(.int i6)])) _
  refine XS.iconst X0.here hx rfl (hb hby at_369) ?_
  show Steps p.tables e below (T0.setTop (mkF m 370 #[s0, s1, s2, s3, s4, s5, .val (.int i6), s7, s8, s9, s10, s11, s12, s13, .val (.int i14), s15, s16] [(.int (3 : Int32)), (.int i6)])) _
  refine XS.icmpNo X0.here hx rfl (hb hby at_370) rfl (teq hc370).2 ?_
  show Steps p.tables e below (T0.setTop (mkF m 373 #[s0, s1, s2, s3, s4, s5, .val (.int i6), s7, s8, s9, s10, s11, s12, s13, .val (.int i14), s15, s16] [])) _
  refine XS.iload X0.here hx rfl (hb hby at_373) rfl ?_
  show Steps p.tables e below (T0.setTop (mkF m 375 #[s0, s1, s2, s3, s4, s5, .val (.int i6), s7, s8, s9, s10, s11, s12, s13, .val (.int i14), s15, s16] [(.int i14)])) _
  refine XS.istore X0.here hx rfl (hb hby at_375) rfl (l' := #[s0, s1, s2, s3, s4, s5, .val (.int i6), s7, s8, s9, s10, s11, s12, s13, .val (.int i14), s15, .val (.int i14)]) (os0_375 hs16) ?_
  show Steps p.tables e below (T0.setTop (mkF m 377 #[s0, s1, s2, s3, s4, s5, .val (.int i6), s7, s8, s9, s10, s11, s12, s13, .val (.int i14), s15, .val (.int i14)] [])) _
  refine XS.goto X0.here hx rfl (pc0 := 377) (pc' := 384) rfl (hb hby at_377) (by decide) (by decide) ?_
  exact kt

set_option maxRecDepth 65536 in
set_option maxHeartbeats 40000000 in
theorem tnE_4 {p : Program} {l : Launch} {e : Env} {R : Room} {s : State} {m : MethodId} {args : Array Value} {below : List Frame} {meth : Method} {c : Code} {T0 : State} {locs : List Loc} {cells slots : Nat} {Z : State} {a0 : Array Value} {h0 : Heap} (s0 : Slot) (s1 : Slot) (s2 : Slot) (s3 : Slot) (s4 : Slot) (s5 : Slot) (i6 : Int32) (s7 : Slot) (s8 : Slot) (s9 : Slot) (s10 : Slot) (s11 : Slot) (s12 : Slot) (s13 : Slot) (s14 : Slot) (i15 : Int32) (s16 : Slot)
    (X0 : Stand p l e R s m args below meth c T0 locs cells slots) (hx : p.tables.exec = Jvm.exec) (hZ : Z.Warmed39 s.vm) (hw : ∀ d ∈ tables_1, d.before a0 Z = true) (hby : c.code = code) (hml : c.maxLocals = 17) (hown : s.vm.findClass "com/example/libpiecewise/libpiecewise/DfaRunPinLaw" = some m.cls) (e0 : T0.heap = h0) (hs16 : One s16) (hc331 : ¬ (i6 = (0 : Int32))) (hc344 : ¬ (i6 = (1 : Int32))) (hc357 : ¬ (i6 = (2 : Int32))) (hc370 : ¬ (i6 = (3 : Int32))) :
    ∃ (T' : State), Stand p l e R s m args below meth c T' locs cells slots ∧ T'.heap = h0 ∧
      ∀ target, Steps p.tables e below (T'.setTop (mkF m 384 #[s0, s1, s2, s3, s4, s5, .val (.int i6), s7, s8, s9, s10, s11, s12, s13, s14, .val (.int i15), .val (.int i15)] [])) target → Steps p.tables e below (T0.setTop (mkF m 329 #[s0, s1, s2, s3, s4, s5, .val (.int i6), s7, s8, s9, s10, s11, s12, s13, s14, .val (.int i15), s16] [])) target := by

  refine ⟨T0, X0, e0, fun target kt => ?_⟩
  show Steps p.tables e below (T0.setTop (mkF m 329 #[s0, s1, s2, s3, s4, s5, .val (.int i6), s7, s8, s9, s10, s11, s12, s13, s14, .val (.int i15), s16] [])) _
  refine XS.iload X0.here hx rfl (hb hby at_329) rfl ?_
  show Steps p.tables e below (T0.setTop (mkF m 331 #[s0, s1, s2, s3, s4, s5, .val (.int i6), s7, s8, s9, s10, s11, s12, s13, s14, .val (.int i15), s16] [(.int i6)])) _
  refine XS.ifYes X0.here hx rfl (pc0 := 331) (pc' := 341) rfl (hb hby at_331) rfl ((if0 _ _).trans (feq hc331).2) (by decide) (by decide) ?_
  show Steps p.tables e below (T0.setTop (mkF m 341 #[s0, s1, s2, s3, s4, s5, .val (.int i6), s7, s8, s9, s10, s11, s12, s13, s14, .val (.int i15), s16] [])) _
  refine XS.iload X0.here hx rfl (hb hby at_341) rfl ?_
  show Steps p.tables e below (T0.setTop (mkF m 343 #[s0, s1, s2, s3, s4, s5, .val (.int i6), s7, s8, s9, s10, s11, s12, s13, s14, .val (.int i15), s16] [(.int i6)])) _
  refine XS.iconst X0.here hx rfl (hb hby at_343) ?_
  show Steps p.tables e below (T0.setTop (mkF m 344 #[s0, s1, s2, s3, s4, s5, .val (.int i6), s7, s8, s9, s10, s11, s12, s13, s14, .val (.int i15), s16] [(.int (1 : Int32)), (.int i6)])) _
  refine XS.icmpYes X0.here hx rfl (pc0 := 344) (pc' := 354) rfl (hb hby at_344) rfl (feq hc344).2 (by decide) (by decide) ?_
  show Steps p.tables e below (T0.setTop (mkF m 354 #[s0, s1, s2, s3, s4, s5, .val (.int i6), s7, s8, s9, s10, s11, s12, s13, s14, .val (.int i15), s16] [])) _
  refine XS.iload X0.here hx rfl (hb hby at_354) rfl ?_
  show Steps p.tables e below (T0.setTop (mkF m 356 #[s0, s1, s2, s3, s4, s5, .val (.int i6), s7, s8, s9, s10, s11, s12, s13, s14, .val (.int i15), s16] [(.int i6)])) _
  refine XS.iconst X0.here hx rfl (hb hby at_356) ?_
  show Steps p.tables e below (T0.setTop (mkF m 357 #[s0, s1, s2, s3, s4, s5, .val (.int i6), s7, s8, s9, s10, s11, s12, s13, s14, .val (.int i15), s16] [(.int (2 : Int32)), (.int i6)])) _
  refine XS.icmpYes X0.here hx rfl (pc0 := 357) (pc' := 367) rfl (hb hby at_357) rfl (feq hc357).2 (by decide) (by decide) ?_
  show Steps p.tables e below (T0.setTop (mkF m 367 #[s0, s1, s2, s3, s4, s5, .val (.int i6), s7, s8, s9, s10, s11, s12, s13, s14, .val (.int i15), s16] [])) _
  refine XS.iload X0.here hx rfl (hb hby at_367) rfl ?_
  show Steps p.tables e below (T0.setTop (mkF m 369 #[s0, s1, s2, s3, s4, s5, .val (.int i6), s7, s8, s9, s10, s11, s12, s13, s14, .val (.int i15), s16] [(.int i6)])) _
  refine XS.iconst X0.here hx rfl (hb hby at_369) ?_
  show Steps p.tables e below (T0.setTop (mkF m 370 #[s0, s1, s2, s3, s4, s5, .val (.int i6), s7, s8, s9, s10, s11, s12, s13, s14, .val (.int i15), s16] [(.int (3 : Int32)), (.int i6)])) _
  refine XS.icmpYes X0.here hx rfl (pc0 := 370) (pc' := 380) rfl (hb hby at_370) rfl (feq hc370).2 (by decide) (by decide) ?_
  show Steps p.tables e below (T0.setTop (mkF m 380 #[s0, s1, s2, s3, s4, s5, .val (.int i6), s7, s8, s9, s10, s11, s12, s13, s14, .val (.int i15), s16] [])) _
  refine XS.iload X0.here hx rfl (hb hby at_380) rfl ?_
  show Steps p.tables e below (T0.setTop (mkF m 382 #[s0, s1, s2, s3, s4, s5, .val (.int i6), s7, s8, s9, s10, s11, s12, s13, s14, .val (.int i15), s16] [(.int i15)])) _
  refine XS.istore X0.here hx rfl (hb hby at_382) rfl (l' := #[s0, s1, s2, s3, s4, s5, .val (.int i6), s7, s8, s9, s10, s11, s12, s13, s14, .val (.int i15), .val (.int i15)]) (os0_382 hs16) ?_
  exact kt

set_option maxRecDepth 65536 in
set_option maxHeartbeats 40000000 in
theorem tn0_384_403 {p : Program} {l : Launch} {e : Env} {s : State} {m : MethodId} {args : Array Value} {below : List Frame} {meth : Method} {c : Code} {T0 : State} {locs : List Loc} {slots : Nat} {Z : State} {a0 : Array Value} {h0 : Heap} (s0 : Slot) (s1 : Slot) (s2 : Slot) (s3 : Slot) (o4 : Addr) (i5 : Int32) (s6 : Slot) (s7 : Slot) (s8 : Slot) (s9 : Slot) (s10 : Slot) (o11 : Addr) (s12 : Slot) (s13 : Slot) (s14 : Slot) (s15 : Slot) (i16 : Int32) (an : Addr) (kw kn : ClassId) (t : Int32) (ls : List Int32) (n0 : Nat)
    (X0 : Stand p l e room_1 s m args below meth c T0 locs 4 slots) (hx : p.tables.exec = Jvm.exec) (hZ : Z.Warmed39 s.vm) (hw : ∀ d ∈ tables_1, d.before a0 Z = true) (hby : c.code = code) (hml : c.maxLocals = 17) (hown : s.vm.findClass "com/example/libpiecewise/libpiecewise/DfaRunPinLaw" = some m.cls) (e0 : T0.heap = h0) (Z0 : n0 ≤ h0.size) (N0 : Fr n0 locs) (hsl : slots ≤ 24) (hn : ls.length ≤ 255) (hls : ∀ x ∈ ls, 0 ≤ x.toInt ∧ x.toInt ≤ 2) (hq : 0 ≤ i5.toInt ∧ i5.toInt ≤ 3) (Vw : Arv Z h0 o11 kw .int (Int32.ofNat ls.length) (ls.map Value.int) (.int 0)) (Vn : Arv Z h0 an kn .int (12 : Int32) (own_edges t) (.int 0)) (Fn : Fld Z h0 o4 "com/example/libpiecewise/libpiecewise/Dfa" "next" "[I" (.ref an)) (Fl : Fld Z h0 o4 "com/example/libpiecewise/libpiecewise/Dfa" "letterCount" "I" (.int (3 : Int32))) (hres : own_fold t i5 ls = i16) (E_o4 : Exa Z h0 o4 "com/example/libpiecewise/libpiecewise/Dfa") :
    ∃ (T' : State) (locs' : List Loc), Stand p l e room_1 s m args below meth c T' locs' 4 slots ∧ Fr n0 locs' ∧
      ∀ target, Steps p.tables e below (T'.setTop (mkF m 403 #[s0, s1, s2, s3, .val (.ref o4), .val (.int i5), s6, s7, s8, s9, s10, .val (.ref o11), s12, s13, s14, s15, .val (.int i16)] [(.int (1 : Int32))])) target → Steps p.tables e below (T0.setTop (mkF m 384 #[s0, s1, s2, s3, .val (.ref o4), .val (.int i5), s6, s7, s8, s9, s10, .val (.ref o11), s12, s13, s14, s15, .val (.int i16)] [])) target := by
  obtain ⟨cq4, kq4, q4a, q4b, q4c⟩ := isOf hZ e0 E_o4
  obtain ⟨_, _, ⟨T4, L4, k4, n4⟩, -, X4, ⟨Lc4, hQ4, l4, y4, z4⟩, st4⟩ := X0.virtualBack hx (y := (⟨"com/example/libpiecewise/libpiecewise/Dfa", "run", "(I[I)I"⟩ : MethodName)) (z := (⟨"com/example/libpiecewise/libpiecewise/Dfa", "run", "(I[I)I"⟩ : MethodName)) hown (mvT hZ (hw _ (List.mem_of_getElem? (i := 26) rfl))) (mvT hZ (hw _ (List.mem_of_getElem? (i := 27) rfl))) (notFace_of_selects (args := #[]) (mvT hZ (hw _ (List.mem_of_getElem? (i := 29) rfl)))) (mvT hZ (hw _ (List.mem_of_getElem? (i := 29) rfl))) (mvT hZ (hw _ (List.mem_of_getElem? (i := 28) rfl))) (by decide) (backOf (W := 0) (rm5 l Z a0 hw [] o4 i5 o11 an kw kn t ls h0 n0 Z0 hn hls hq Vw Vn Fn Fl) hZ (hw _ (List.mem_of_getElem? (i := 30) rfl)) (hw _ (List.mem_of_getElem? (i := 7) rfl)) (by decide) (by decide)) q4a q4c (g := (mkF m 390 #[s0, s1, s2, s3, .val (.ref o4), .val (.int i5), s6, s7, s8, s9, s10, .val (.ref o11), s12, s13, s14, s15, .val (.int i16)] [(.ref o11), (.int i5), (.ref o4)])) rfl (by rw [hml]; rfl) (Steps.refl _) (argsL := [(.int i5), (.ref o11)]) (rest := []) (lenOf pd_0_4 rfl) rfl (by show 2 * 0 + _ ≤ _; exact Nat.le_of_eq rfl) (hb hby at_390) (fun _ _ => ⟨rfl, e0, (by decide : 4 + 0 ≤ _), (Nat.le_trans hsl (by decide))⟩)
  dsimp only [Pt.U, Pt.locs, Pt.cells, Pt.slots] at X4 l4 y4 z4 st4 hQ4
  subst l4 y4 z4
  obtain ⟨rfl, N4q, e4⟩ := hQ4      -- what it returned, that it wrote nothing old, and the rest of your Q5
  have N4 := Fr.app N0 N4q
  refine ⟨T4, _, X4, N4, fun target kt => ?_⟩
  show Steps p.tables e below (T0.setTop (mkF m 384 #[s0, s1, s2, s3, .val (.ref o4), .val (.int i5), s6, s7, s8, s9, s10, .val (.ref o11), s12, s13, s14, s15, .val (.int i16)] [])) _
  refine XS.aload X0.here hx rfl (hb hby at_384) rfl rfl ?_
  show Steps p.tables e below (T0.setTop (mkF m 386 #[s0, s1, s2, s3, .val (.ref o4), .val (.int i5), s6, s7, s8, s9, s10, .val (.ref o11), s12, s13, s14, s15, .val (.int i16)] [(.ref o4)])) _
  refine XS.iload X0.here hx rfl (hb hby at_386) rfl ?_
  show Steps p.tables e below (T0.setTop (mkF m 388 #[s0, s1, s2, s3, .val (.ref o4), .val (.int i5), s6, s7, s8, s9, s10, .val (.ref o11), s12, s13, s14, s15, .val (.int i16)] [(.int i5), (.ref o4)])) _
  refine XS.aload X0.here hx rfl (hb hby at_388) rfl rfl ?_
  show Steps p.tables e below (T0.setTop (mkF m 390 #[s0, s1, s2, s3, .val (.ref o4), .val (.int i5), s6, s7, s8, s9, s10, .val (.ref o11), s12, s13, s14, s15, .val (.int i16)] [(.ref o11), (.int i5), (.ref o4)])) _
  refine st4.trans ?_
  show Steps p.tables e below (T4.setTop (mkF m 393 #[s0, s1, s2, s3, .val (.ref o4), .val (.int i5), s6, s7, s8, s9, s10, .val (.ref o11), s12, s13, s14, s15, .val (.int i16)] [(.int (own_fold t i5 ls))])) _
  refine XS.iload X4.here hx rfl (hb hby at_393) rfl ?_
  show Steps p.tables e below (T4.setTop (mkF m 395 #[s0, s1, s2, s3, .val (.ref o4), .val (.int i5), s6, s7, s8, s9, s10, .val (.ref o11), s12, s13, s14, s15, .val (.int i16)] [(.int i16), (.int (own_fold t i5 ls))])) _
  refine XS.icmpNo X4.here hx rfl (hb hby at_395) rfl (teq (hres : (own_fold t i5 ls) = i16)).2 ?_
  show Steps p.tables e below (T4.setTop (mkF m 398 #[s0, s1, s2, s3, .val (.ref o4), .val (.int i5), s6, s7, s8, s9, s10, .val (.ref o11), s12, s13, s14, s15, .val (.int i16)] [])) _
  refine XS.iconst X4.here hx rfl (hb hby at_398) ?_
  show Steps p.tables e below (T4.setTop (mkF m 399 #[s0, s1, s2, s3, .val (.ref o4), .val (.int i5), s6, s7, s8, s9, s10, .val (.ref o11), s12, s13, s14, s15, .val (.int i16)] [(.int (1 : Int32))])) _
  refine XS.goto X4.here hx rfl (pc0 := 399) (pc' := 403) rfl (hb hby at_399) (by decide) (by decide) ?_
  exact kt

theorem tnG {p : Program} {l : Launch} {e : Env} {s : State} {m : MethodId} {args : Array Value} {below : List Frame} {meth : Method} {c : Code} {T0 : State} {locs : List Loc} {Z : State} {a0 : Array Value} {h0 : Heap} (t i1 i2 : Int32) (an d : Addr) (q n a b cc dd : Int32) (kn : ClassId) (n0 : Nat)
    (X0 : Stand p l e room_1 s m args below meth c T0 locs 3 20) (hx : p.tables.exec = Jvm.exec) (hZ : Z.Warmed39 s.vm) (hw : ∀ d ∈ tables_1, d.before a0 Z = true) (hby : c.code = code) (hml : c.maxLocals = 17) (hown : s.vm.findClass "com/example/libpiecewise/libpiecewise/DfaRunPinLaw" = some m.cls) (e0 : T0.heap = h0) (Z0 : n0 ≤ h0.size) (N0 : Fr n0 locs) (Ex : Exa Z h0 d "com/example/libpiecewise/libpiecewise/Dfa") (Fl : Fld Z h0 d "com/example/libpiecewise/libpiecewise/Dfa" "letterCount" "I" (.int (3 : Int32))) (Fn : Fld Z h0 d "com/example/libpiecewise/libpiecewise/Dfa" "next" "[I" (.ref an)) (Vn : Arv Z h0 an kn .int (12 : Int32) (own_edges t) (.int 0))
    (hq : 0 ≤ q.toInt ∧ q.toInt ≤ 3) (hn : 0 ≤ n.toInt ∧ n.toInt ≤ 4) (ha : 0 ≤ a.toInt ∧ a.toInt ≤ 2) (hb' : 0 ≤ b.toInt ∧ b.toInt ≤ 2) (hc' : 0 ≤ cc.toInt ∧ cc.toInt ≤ 2) (hd' : 0 ≤ dd.toInt ∧ dd.toInt ≤ 2) :
    ∃ (T' : State) (locs' : List Loc) (Ls : Array Slot), Stand p l e room_1 s m args below meth c T' locs' 4 24 ∧ Fr n0 locs' ∧
      ∀ target, Steps p.tables e below (T'.setTop (mkF m 403 Ls [(.int (1 : Int32))])) target → Steps p.tables e below (T0.setTop (mkF m 179 #[.val (.int t), .val (.int i1), .val (.int i2), .val (.ref an), .val (.ref d), .val (.int q), .val (.int n), .val (.int a), .val (.int b), .val (.int cc), .val (.int dd), .unset, .unset, .unset, .unset, .unset, .unset] [])) target := by
  rcases own_n5 n hn with rfl | rfl | rfl | rfl | rfl
  · obtain ⟨T1, h1, L1, w, kw, X1, e1, N1, K1, V1, st1⟩ := tnC_0 (.val (.int t)) (.val (.int i1)) (.val (.int i2)) (.val (.ref an)) (.val (.ref d)) (.val (.int q)) (0 : Int32) (.val (.int a)) (.val (.int b)) (.val (.int cc)) (.val (.int dd)) .unset .unset .unset .unset .unset .unset n0 X0 hx hZ hw hby hml hown e0 Z0 N0 One.u (by decide)
    have Z1 : n0 ≤ h1.size := Nat.le_trans Z0 K1.1
    obtain ⟨T2, L2, X2, e2, N2, st2⟩ := tn0_289_329 t (.val (.int i1)) (.val (.int i2)) (.val (.ref an)) (.val (.ref d)) q (.val (.int (0 : Int32))) a b cc dd (.val (.ref w)) .unset .unset .unset .unset .unset n0 X1 hx hZ hw hby hml hown e1 Z1 N1 (by decide) One.u One.u One.u One.u
    obtain ⟨T3, X3, e3, st3⟩ := tnE_0 (.val (.int t)) (.val (.int i1)) (.val (.int i2)) (.val (.ref an)) (.val (.ref d)) q (0 : Int32) (.val (.int a)) (.val (.int b)) (.val (.int cc)) (.val (.int dd)) (.val (.ref w)) (.val (.int (own_delta t q a))) (.val (.int (own_delta t (own_delta t q a) b))) (.val (.int (own_delta t (own_delta t (own_delta t q a) b) cc))) (.val (.int (own_delta t (own_delta t (own_delta t (own_delta t q a) b) cc) dd))) .unset X2 hx hZ hw hby hml hown e2 One.u (by decide)
    obtain ⟨T4, L4, X4, N4, st4⟩ := tn0_384_403 (.val (.int t)) (.val (.int i1)) (.val (.int i2)) (.val (.ref an)) d q (.val (.int (0 : Int32))) (.val (.int a)) (.val (.int b)) (.val (.int cc)) (.val (.int dd)) w (.val (.int (own_delta t q a))) (.val (.int (own_delta t (own_delta t q a) b))) (.val (.int (own_delta t (own_delta t (own_delta t q a) b) cc))) (.val (.int (own_delta t (own_delta t (own_delta t (own_delta t q a) b) cc) dd))) q an kw kn t [] n0 X3 hx hZ hw hby hml hown e3 Z1 N2 (by decide) (Nat.le_of_ble_eq_true rfl) (by intro x hx'; cases hx') hq V1 (Vn.keep K1 List.not_mem_nil) (Fn.keep K1 List.not_mem_nil) (Fl.keep K1 List.not_mem_nil) rfl (Ex.keep K1)
    exact ⟨T4, L4, _, own_stand_le X4 (Nat.le_refl _) (by decide), N4, fun target h => st1 _ (st2 _ (st3 _ (st4 _ h)))⟩
  · obtain ⟨T1, h1, L1, w, kw, X1, e1, N1, K1, V1, st1⟩ := tnC_1 (.val (.int t)) (.val (.int i1)) (.val (.int i2)) (.val (.ref an)) (.val (.ref d)) (.val (.int q)) (1 : Int32) a (.val (.int b)) (.val (.int cc)) (.val (.int dd)) .unset .unset .unset .unset .unset .unset n0 X0 hx hZ hw hby hml hown e0 Z0 N0 One.u (by decide) (by decide)
    have Z1 : n0 ≤ h1.size := Nat.le_trans Z0 K1.1
    obtain ⟨T2, L2, X2, e2, N2, st2⟩ := tn0_289_329 t (.val (.int i1)) (.val (.int i2)) (.val (.ref an)) (.val (.ref d)) q (.val (.int (1 : Int32))) a b cc dd (.val (.ref w)) .unset .unset .unset .unset .unset n0 X1 hx hZ hw hby hml hown e1 Z1 N1 (by decide) One.u One.u One.u One.u
    obtain ⟨T3, X3, e3, st3⟩ := tnE_1 (.val (.int t)) (.val (.int i1)) (.val (.int i2)) (.val (.ref an)) (.val (.ref d)) (.val (.int q)) (1 : Int32) (.val (.int a)) (.val (.int b)) (.val (.int cc)) (.val (.int dd)) (.val (.ref w)) (own_delta t q a) (.val (.int (own_delta t (own_delta t q a) b))) (.val (.int (own_delta t (own_delta t (own_delta t q a) b) cc))) (.val (.int (own_delta t (own_delta t (own_delta t (own_delta t q a) b) cc) dd))) .unset X2 hx hZ hw hby hml hown e2 One.u (by decide) (by decide)
    obtain ⟨T4, L4, X4, N4, st4⟩ := tn0_384_403 (.val (.int t)) (.val (.int i1)) (.val (.int i2)) (.val (.ref an)) d q (.val (.int (1 : Int32))) (.val (.int a)) (.val (.int b)) (.val (.int cc)) (.val (.int dd)) w (.val (.int (own_delta t q a))) (.val (.int (own_delta t (own_delta t q a) b))) (.val (.int (own_delta t (own_delta t (own_delta t q a) b) cc))) (.val (.int (own_delta t (own_delta t (own_delta t (own_delta t q a) b) cc) dd))) (own_delta t q a) an kw kn t [a] n0 X3 hx hZ hw hby hml hown e3 Z1 N2 (by decide) (Nat.le_of_ble_eq_true rfl) (by intro x hx'; simp only [List.mem_cons, List.not_mem_nil, or_false] at hx'; rcases hx' with rfl <;> assumption) hq V1 (Vn.keep K1 List.not_mem_nil) (Fn.keep K1 List.not_mem_nil) (Fl.keep K1 List.not_mem_nil) rfl (Ex.keep K1)
    exact ⟨T4, L4, _, own_stand_le X4 (Nat.le_refl _) (by decide), N4, fun target h => st1 _ (st2 _ (st3 _ (st4 _ h)))⟩
  · obtain ⟨T1, h1, L1, w, kw, X1, e1, N1, K1, V1, st1⟩ := tnC_2 (.val (.int t)) (.val (.int i1)) (.val (.int i2)) (.val (.ref an)) (.val (.ref d)) (.val (.int q)) (2 : Int32) a b (.val (.int cc)) (.val (.int dd)) .unset .unset .unset .unset .unset .unset n0 X0 hx hZ hw hby hml hown e0 Z0 N0 One.u (by decide) (by decide) (by decide)
    have Z1 : n0 ≤ h1.size := Nat.le_trans Z0 K1.1
    obtain ⟨T2, L2, X2, e2, N2, st2⟩ := tn0_289_329 t (.val (.int i1)) (.val (.int i2)) (.val (.ref an)) (.val (.ref d)) q (.val (.int (2 : Int32))) a b cc dd (.val (.ref w)) .unset .unset .unset .unset .unset n0 X1 hx hZ hw hby hml hown e1 Z1 N1 (by decide) One.u One.u One.u One.u
    obtain ⟨T3, X3, e3, st3⟩ := tnE_2 (.val (.int t)) (.val (.int i1)) (.val (.int i2)) (.val (.ref an)) (.val (.ref d)) (.val (.int q)) (2 : Int32) (.val (.int a)) (.val (.int b)) (.val (.int cc)) (.val (.int dd)) (.val (.ref w)) (.val (.int (own_delta t q a))) (own_delta t (own_delta t q a) b) (.val (.int (own_delta t (own_delta t (own_delta t q a) b) cc))) (.val (.int (own_delta t (own_delta t (own_delta t (own_delta t q a) b) cc) dd))) .unset X2 hx hZ hw hby hml hown e2 One.u (by decide) (by decide) (by decide)
    obtain ⟨T4, L4, X4, N4, st4⟩ := tn0_384_403 (.val (.int t)) (.val (.int i1)) (.val (.int i2)) (.val (.ref an)) d q (.val (.int (2 : Int32))) (.val (.int a)) (.val (.int b)) (.val (.int cc)) (.val (.int dd)) w (.val (.int (own_delta t q a))) (.val (.int (own_delta t (own_delta t q a) b))) (.val (.int (own_delta t (own_delta t (own_delta t q a) b) cc))) (.val (.int (own_delta t (own_delta t (own_delta t (own_delta t q a) b) cc) dd))) (own_delta t (own_delta t q a) b) an kw kn t [a, b] n0 X3 hx hZ hw hby hml hown e3 Z1 N2 (by decide) (Nat.le_of_ble_eq_true rfl) (by intro x hx'; simp only [List.mem_cons, List.not_mem_nil, or_false] at hx'; rcases hx' with rfl | rfl <;> assumption) hq V1 (Vn.keep K1 List.not_mem_nil) (Fn.keep K1 List.not_mem_nil) (Fl.keep K1 List.not_mem_nil) rfl (Ex.keep K1)
    exact ⟨T4, L4, _, own_stand_le X4 (Nat.le_refl _) (by decide), N4, fun target h => st1 _ (st2 _ (st3 _ (st4 _ h)))⟩
  · obtain ⟨T1, h1, L1, w, kw, X1, e1, N1, K1, V1, st1⟩ := tnC_3 (.val (.int t)) (.val (.int i1)) (.val (.int i2)) (.val (.ref an)) (.val (.ref d)) (.val (.int q)) (3 : Int32) a b cc (.val (.int dd)) .unset .unset .unset .unset .unset .unset n0 X0 hx hZ hw hby hml hown e0 Z0 N0 One.u (by decide) (by decide) (by decide) (by decide)
    have Z1 : n0 ≤ h1.size := Nat.le_trans Z0 K1.1
    obtain ⟨T2, L2, X2, e2, N2, st2⟩ := tn0_289_329 t (.val (.int i1)) (.val (.int i2)) (.val (.ref an)) (.val (.ref d)) q (.val (.int (3 : Int32))) a b cc dd (.val (.ref w)) .unset .unset .unset .unset .unset n0 X1 hx hZ hw hby hml hown e1 Z1 N1 (by decide) One.u One.u One.u One.u
    obtain ⟨T3, X3, e3, st3⟩ := tnE_3 (.val (.int t)) (.val (.int i1)) (.val (.int i2)) (.val (.ref an)) (.val (.ref d)) (.val (.int q)) (3 : Int32) (.val (.int a)) (.val (.int b)) (.val (.int cc)) (.val (.int dd)) (.val (.ref w)) (.val (.int (own_delta t q a))) (.val (.int (own_delta t (own_delta t q a) b))) (own_delta t (own_delta t (own_delta t q a) b) cc) (.val (.int (own_delta t (own_delta t (own_delta t (own_delta t q a) b) cc) dd))) .unset X2 hx hZ hw hby hml hown e2 One.u (by decide) (by decide) (by decide) (by decide)
    obtain ⟨T4, L4, X4, N4, st4⟩ := tn0_384_403 (.val (.int t)) (.val (.int i1)) (.val (.int i2)) (.val (.ref an)) d q (.val (.int (3 : Int32))) (.val (.int a)) (.val (.int b)) (.val (.int cc)) (.val (.int dd)) w (.val (.int (own_delta t q a))) (.val (.int (own_delta t (own_delta t q a) b))) (.val (.int (own_delta t (own_delta t (own_delta t q a) b) cc))) (.val (.int (own_delta t (own_delta t (own_delta t (own_delta t q a) b) cc) dd))) (own_delta t (own_delta t (own_delta t q a) b) cc) an kw kn t [a, b, cc] n0 X3 hx hZ hw hby hml hown e3 Z1 N2 (by decide) (Nat.le_of_ble_eq_true rfl) (by intro x hx'; simp only [List.mem_cons, List.not_mem_nil, or_false] at hx'; rcases hx' with rfl | rfl | rfl <;> assumption) hq V1 (Vn.keep K1 List.not_mem_nil) (Fn.keep K1 List.not_mem_nil) (Fl.keep K1 List.not_mem_nil) rfl (Ex.keep K1)
    exact ⟨T4, L4, _, own_stand_le X4 (Nat.le_refl _) (by decide), N4, fun target h => st1 _ (st2 _ (st3 _ (st4 _ h)))⟩
  · obtain ⟨T1, h1, L1, w, kw, X1, e1, N1, K1, V1, st1⟩ := tnC_4 (.val (.int t)) (.val (.int i1)) (.val (.int i2)) (.val (.ref an)) (.val (.ref d)) (.val (.int q)) (4 : Int32) a b cc dd .unset .unset .unset .unset .unset .unset n0 X0 hx hZ hw hby hml hown e0 Z0 N0 One.u (by decide) (by decide) (by decide) (by decide)
    have Z1 : n0 ≤ h1.size := Nat.le_trans Z0 K1.1
    obtain ⟨T2, L2, X2, e2, N2, st2⟩ := tn0_289_329 t (.val (.int i1)) (.val (.int i2)) (.val (.ref an)) (.val (.ref d)) q (.val (.int (4 : Int32))) a b cc dd (.val (.ref w)) .unset .unset .unset .unset .unset n0 X1 hx hZ hw hby hml hown e1 Z1 N1 (by decide) One.u One.u One.u One.u
    obtain ⟨T3, X3, e3, st3⟩ := tnE_4 (.val (.int t)) (.val (.int i1)) (.val (.int i2)) (.val (.ref an)) (.val (.ref d)) (.val (.int q)) (4 : Int32) (.val (.int a)) (.val (.int b)) (.val (.int cc)) (.val (.int dd)) (.val (.ref w)) (.val (.int (own_delta t q a))) (.val (.int (own_delta t (own_delta t q a) b))) (.val (.int (own_delta t (own_delta t (own_delta t q a) b) cc))) (own_delta t (own_delta t (own_delta t (own_delta t q a) b) cc) dd) .unset X2 hx hZ hw hby hml hown e2 One.u (by decide) (by decide) (by decide) (by decide)
    obtain ⟨T4, L4, X4, N4, st4⟩ := tn0_384_403 (.val (.int t)) (.val (.int i1)) (.val (.int i2)) (.val (.ref an)) d q (.val (.int (4 : Int32))) (.val (.int a)) (.val (.int b)) (.val (.int cc)) (.val (.int dd)) w (.val (.int (own_delta t q a))) (.val (.int (own_delta t (own_delta t q a) b))) (.val (.int (own_delta t (own_delta t (own_delta t q a) b) cc))) (.val (.int (own_delta t (own_delta t (own_delta t (own_delta t q a) b) cc) dd))) (own_delta t (own_delta t (own_delta t (own_delta t q a) b) cc) dd) an kw kn t [a, b, cc, dd] n0 X3 hx hZ hw hby hml hown e3 Z1 N2 (by decide) (Nat.le_of_ble_eq_true rfl) (by intro x hx'; simp only [List.mem_cons, List.not_mem_nil, or_false] at hx'; rcases hx' with rfl | rfl | rfl | rfl <;> assumption) hq V1 (Vn.keep K1 List.not_mem_nil) (Fn.keep K1 List.not_mem_nil) (Fl.keep K1 List.not_mem_nil) rfl (Ex.keep K1)
    exact ⟨T4, L4, _, own_stand_le X4 (Nat.le_refl _) (by decide), N4, fun target h => st1 _ (st2 _ (st3 _ (st4 _ h)))⟩
def Q0 (Z : State) (p1 : Int32) (p2 : Int32) (p3 : Int32) (h0 : Heap) (n0 : Nat) (v : Option Value) (h : Heap) (L : List Loc) : Prop := v = some (.int (1 : Int32)) ∧ Fr n0 L
set_option maxRecDepth 65536 in
set_option maxHeartbeats 40000000 in
theorem rm0 (l : Launch) (Z : State) (a0 : Array Value) (hw : ∀ d ∈ tables_1, d.before a0 Z = true) (ws : List Jvm.Cond) (p1 : Int32) (p2 : Int32) (p3 : Int32) (h0 : Heap) (n0 : Nat) (Z0 : n0 ≤ h0.size) :
    MetFree l x (head1 (Jvm.Cond.code x code maxLocals ret :: ws) room_1) (fun a U => a = #[(.int p1), (.int p2), (.int p3)] ∧ Z.Warmed39 U.vm ∧ U.heap = h0) (fun _ _ _ _ _ => True) (fun _ U o U' => ∃ v L, o = .returned v ∧ Q0 Z p1 p2 p3 h0 n0 v U'.heap L ∧ FrameEnd U o U' L room_1.cells room_1.slots) := by
  refine MetFree.of_bodySF (plainFor_of_name pn_0) hisR ?_
  intro p e s m args below meth c s₁ Bd hml0 hP hK
  obtain ⟨rfl, hZ, hh⟩ := hP
  have hx := Bd.exec
  have hby := Bd.bytes
  have hml : c.maxLocals = 17 := hml0
  have hown : s.vm.findClass "com/example/libpiecewise/libpiecewise/DfaRunPinLaw" = some m.cls := findClass_of_methodNamed Bd.named
  have hnm := (name_of_methodNamed Bd.named Bd.method).1
  have X0 : Stand p l e room_1 s m #[(.int p1), (.int p2), (.int p3)] below meth c s₁ [] 0 0 := Stand.of_body Bd
  have e0 : s₁.heap = h0 := by rw [← hh, Bd.state]; rfl
  have N0 := Fr.nil n0
  have pre0 : ∀ t, Steps p.tables e below (s₁.setTop (mkF m 0 #[.val (.int p1), .val (.int p2), .val (.int p3), .unset, .unset, .unset, .unset, .unset, .unset, .unset, .unset, .unset, .unset, .unset, .unset, .unset, .unset] [])) t → Steps p.tables e below (s₁.setTop (entryFrame m #[(.int p1), (.int p2), (.int p3)] maxLocals)) t := fun t k => castTop (ef_0 m p1 p2 p3) k
  obtain ⟨T1, h1, an, X1, e1, E1, g1, V1, st1⟩ := tn0_0_5 (.val (.int p1)) (.val (.int p2)) (.val (.int p3)) .unset .unset .unset .unset .unset .unset .unset .unset .unset .unset .unset .unset .unset .unset n0 X0 hx hZ hw hby hml hown e0 Z0 One.u
  have han : h0.size ≤ an := Nat.le_of_eq g1.symm
  have gan : n0 ≤ an := Nat.le_trans Z0 han
  have K1 : Keep h0 h1 [] := (Keep.refl h0 []).ext E1
  obtain ⟨T_0, h_0, L_0, X_0, e_0, N_0, Z_0, K_0, V_0, st_0⟩ := fill_0 p1 an (.val (.int p2)) (.val (.int p3)) .unset .unset .unset .unset .unset .unset .unset .unset .unset .unset .unset .unset .unset n0 h0 X1 hx hZ hw hby hml hown e1 (Nat.le_trans Z0 K1.1) N0 gan han K1 (V1.congr fun j hj => by rw [if_neg (Nat.not_lt_zero j)])
  obtain ⟨T_1, h_1, L_1, X_1, e_1, N_1, Z_1, K_1, V_1, st_1⟩ := fill_1 p1 an (.val (.int p2)) (.val (.int p3)) .unset .unset .unset .unset .unset .unset .unset .unset .unset .unset .unset .unset .unset n0 h0 X_0 hx hZ hw hby hml hown e_0 Z_0 N_0 gan han K_0 V_0
  obtain ⟨T_2, h_2, L_2, X_2, e_2, N_2, Z_2, K_2, V_2, st_2⟩ := fill_2 p1 an (.val (.int p2)) (.val (.int p3)) .unset .unset .unset .unset .unset .unset .unset .unset .unset .unset .unset .unset .unset n0 h0 X_1 hx hZ hw hby hml hown e_1 Z_1 N_1 gan han K_1 V_1
  obtain ⟨T_3, h_3, L_3, X_3, e_3, N_3, Z_3, K_3, V_3, st_3⟩ := fill_3 p1 an (.val (.int p2)) (.val (.int p3)) .unset .unset .unset .unset .unset .unset .unset .unset .unset .unset .unset .unset .unset n0 h0 X_2 hx hZ hw hby hml hown e_2 Z_2 N_2 gan han K_2 V_2
  obtain ⟨T_4, h_4, L_4, X_4, e_4, N_4, Z_4, K_4, V_4, st_4⟩ := fill_4 p1 an (.val (.int p2)) (.val (.int p3)) .unset .unset .unset .unset .unset .unset .unset .unset .unset .unset .unset .unset .unset n0 h0 X_3 hx hZ hw hby hml hown e_3 Z_3 N_3 gan han K_3 V_3
  obtain ⟨T_5, h_5, L_5, X_5, e_5, N_5, Z_5, K_5, V_5, st_5⟩ := fill_5 p1 an (.val (.int p2)) (.val (.int p3)) .unset .unset .unset .unset .unset .unset .unset .unset .unset .unset .unset .unset .unset n0 h0 X_4 hx hZ hw hby hml hown e_4 Z_4 N_4 gan han K_4 V_4
  obtain ⟨T_6, h_6, L_6, X_6, e_6, N_6, Z_6, K_6, V_6, st_6⟩ := fill_6 p1 an (.val (.int p2)) (.val (.int p3)) .unset .unset .unset .unset .unset .unset .unset .unset .unset .unset .unset .unset .unset n0 h0 X_5 hx hZ hw hby hml hown e_5 Z_5 N_5 gan han K_5 V_5
  obtain ⟨T_7, h_7, L_7, X_7, e_7, N_7, Z_7, K_7, V_7, st_7⟩ := fill_7 p1 an (.val (.int p2)) (.val (.int p3)) .unset .unset .unset .unset .unset .unset .unset .unset .unset .unset .unset .unset .unset n0 h0 X_6 hx hZ hw hby hml hown e_6 Z_6 N_6 gan han K_6 V_6
  obtain ⟨T_8, h_8, L_8, X_8, e_8, N_8, Z_8, K_8, V_8, st_8⟩ := fill_8 p1 an (.val (.int p2)) (.val (.int p3)) .unset .unset .unset .unset .unset .unset .unset .unset .unset .unset .unset .unset .unset n0 h0 X_7 hx hZ hw hby hml hown e_7 Z_7 N_7 gan han K_7 V_7
  obtain ⟨T_9, h_9, L_9, X_9, e_9, N_9, Z_9, K_9, V_9, st_9⟩ := fill_9 p1 an (.val (.int p2)) (.val (.int p3)) .unset .unset .unset .unset .unset .unset .unset .unset .unset .unset .unset .unset .unset n0 h0 X_8 hx hZ hw hby hml hown e_8 Z_8 N_8 gan han K_8 V_8
  obtain ⟨T_10, h_10, L_10, X_10, e_10, N_10, Z_10, K_10, V_10, st_10⟩ := fill_10 p1 an (.val (.int p2)) (.val (.int p3)) .unset .unset .unset .unset .unset .unset .unset .unset .unset .unset .unset .unset .unset n0 h0 X_9 hx hZ hw hby hml hown e_9 Z_9 N_9 gan han K_9 V_9
  obtain ⟨T_11, h_11, L_11, X_11, e_11, N_11, Z_11, K_11, V_11, st_11⟩ := fill_11 p1 an (.val (.int p2)) (.val (.int p3)) .unset .unset .unset .unset .unset .unset .unset .unset .unset .unset .unset .unset .unset n0 h0 X_10 hx hZ hw hby hml hown e_10 Z_10 N_10 gan han K_10 V_10
  obtain ⟨kn, VT⟩ := own_table V_11
  obtain ⟨TA, hA, LA, dd, XA, eA, NA, ZA, EA, FlA, FnA, VA, stA⟩ := tn0_113_128 (.val (.int p1)) (.val (.int p2)) (.val (.int p3)) an .unset .unset .unset .unset .unset .unset .unset .unset .unset .unset .unset .unset .unset p1 kn n0 X_11 hx hZ hw hby hml hown e_11 Z_11 N_11 VT One.u
  obtain ⟨TB, XB, eB, stB⟩ := tn0_128_179 (.val (.int p1)) p2 p3 (.val (.ref an)) (.val (.ref dd)) .unset .unset .unset .unset .unset .unset .unset .unset .unset .unset .unset .unset XA hx hZ hw hby hml hown eA One.u One.u One.u One.u One.u One.u
  obtain ⟨TG, LG, Ls, XG, NG, stG⟩ := tnG p1 p2 p3 an dd (p2 &&& (3 : Int32)) (own_rem (p3 &&& (7 : Int32)) (5 : Int32)) (own_rem (((p3.toUInt32 >>> ((3 : Int32) &&& 31).toUInt32).toInt32) &&& (3 : Int32)) (3 : Int32)) (own_rem (((p3.toUInt32 >>> ((5 : Int32) &&& 31).toUInt32).toInt32) &&& (3 : Int32)) (3 : Int32)) (own_rem (((p3.toUInt32 >>> ((7 : Int32) &&& 31).toUInt32).toInt32) &&& (3 : Int32)) (3 : Int32)) (own_rem (((p3.toUInt32 >>> ((9 : Int32) &&& 31).toUInt32).toInt32) &&& (3 : Int32)) (3 : Int32)) kn n0 XB hx hZ hw hby hml hown eB ZA NA EA FlA FnA VA (own_and3 _) (own_rem5 _) (own_rem3 _) (own_rem3 _) (own_rem3 _) (own_rem3 _)
  obtain ⟨fs, hr, hrun, hended, hW, hsame⟩ := XG.leave (v := some (.int (1 : Int32))) (fun h => by rw [Bd.returns] at h; cases h)
  refine ⟨_, _, pre0 _ ?_, hrun, hended, _, _, rfl, ?_, ⟨_, rfl⟩, hW, hsame.mono (by decide) (by decide)⟩
  · refine st1 _ (st_0 _ (st_1 _ (st_2 _ (st_3 _ (st_4 _ (st_5 _ (st_6 _ (st_7 _ (st_8 _ (st_9 _ (st_10 _ (st_11 _ (stA _ (stB _ (stG _ ?_)))))))))))))))
    exact retN XG hx (t := .boolean) Bd.returns (by simp) (hb hby at_403) hr
  · show Q0 Z p1 p2 p3 h0 n0 _ TG.heap _
    exact ⟨rfl, NG⟩
set_option maxRecDepth 65536 in
set_option maxHeartbeats 40000000 in
theorem comes_1 {Post : Tables → Env → Array Value → State → Outcome → State → Prop} (hpost : ∀ tb e args s v u, (limb_1_1.after args s (.returned v) u = true ∧ limb_1_2.after args s (.returned v) u = true ∧ True) → FrameEnd s (.returned v) u (Jvm.fieldLocs frame_1_writes args s ++ Jvm.arrayLocs frame_1_arrays args s ++ Jvm.staticLocs frame_1_statics s) 16 128 → Post tb e args s (.returned v) u) :
    ArmFor flags0 classFile x code maxLocals ret World_1 tables_1 room_1 Calls_1 rest_1 Pre_1 Post := by
  intro l hfl _ _ p e ha hc hk s m args below hf hA hF happ hP
  obtain ⟨hcalls, hrest, hpre⟩ := hP
  obtain ⟨-, -, -, hnamed, -, -, -, hat⟩ := (Spec.applies_iff hf).mp happ
  obtain ⟨hg, hn⟩ := and_e (Cond.before_iff.mp (show (Jvm.Cond.and given_1 narrow_1).before args s = true from hpre))
  obtain ⟨g38, g39⟩ := and_e hg
  obtain ⟨g40, g41⟩ := and_e g39
  obtain ⟨g42, g43⟩ := and_e g41
  obtain ⟨w0, w1, w2, rfl⟩ : ∃ w0 w1 w2 : Value, args = #[w0, w1, w2] := by
    have hs : args.size = 3 := by simpa [Cond.value, given_1] using g38
    obtain ⟨L⟩ := args
    match L, hs with
    | [w0, w1, w2], _ => exact ⟨w0, w1, w2, rfl⟩
  have hw := fun d (hd : d ∈ tables_1) => atoms_spec (ws := Jvm.Cond.code x code maxLocals ret :: tables_1) hat d (List.mem_cons_of_mem _ hd)
  have hfit : Fit s := fun {y c} hc i hi => by
    obtain ⟨ha, rfl⟩ := Array.getElem?_eq_some_iff.mp hc
    have q := List.all_eq_true.mp ((Array.all_eq_true_iff_forall_mem.mp hF) _ (Array.getElem_mem ha)) i (List.mem_range.mpr hi)
    simpa [Array.getElem?_eq_getElem hi] using q
  obtain ⟨i0, ei0⟩ := is_v g40
  obtain rfl : w0 = (.int i0) := Option.some.inj ei0
  obtain ⟨i1, ei1⟩ := is_v g42
  obtain rfl : w1 = (.int i1) := Option.some.inj ei1
  obtain ⟨i2, ei2⟩ := is_v g43
  obtain rfl : w2 = (.int i2) := Option.some.inj ei2
  obtain ⟨n, o, h1, h2, h3, _, L, rfl, ⟨rfl, N⟩, hq⟩ := rm0 l s _ hw tables_1 i0 i1 i2 s.heap s.heap.size (Nat.le_refl _) p e ha hc hk s m _ below hf ((Spec.applies_iff_loose hf).mp happ).1 ⟨rfl, State.Warmed39.refl s, rfl⟩ trivial
  refine ⟨n, _, h1, h2, h3, hpost _ _ _ _ _ _ ⟨Cond.after_iff.mpr rfl, Cond.after_iff.mpr (eq_i res_at (Term.int_eval (1)) rfl), trivial⟩ ⟨hq.1, hq.2.1, (hq.2.2.sift fun y hy => Or.inr (N y hy)).mono (by decide) (by decide)⟩⟩
theorem main_1_1 : Claimed_1_1 := comes_1 fun _ _ _ _ _ _ h hF => ⟨h.1, hF⟩
theorem main_1_2 : Claimed_1_2 := comes_1 fun _ _ _ _ _ _ h hF => ⟨h.2.1, hF⟩
end Jvm.Pilot.@@N@@
namespace Jvm.Pilot.@@N@@
open Jvm Jvm.ClassFile Sem Op Lib Jvm.Free Jvm.Stand Jvm.Pilot.@@N@@.Jvm.D
/-! MADE BY PROGRAM (witnessworld.py) out of the Statement's table words and the real class files: 11 classes; the members and pool entries that the words name. The judged class is class 1, her method 3. -/
namespace start1
open Jvm.ClassFile
def u (s : String) : CpInfo := .utf8 (stringToUtf16 s)
/-- a pool by its gaps: so many unusable entries, then the entry; so many at the end -/
def gap : Nat → List CpInfo → List CpInfo
  | 0, r => r
  | n + 1, r => .unusable :: gap n r
def poolList (es : List (Nat × CpInfo)) (last : Nat) : List CpInfo := es.foldr (fun e r => gap e.1 (e.2 :: r)) (gap last [])
def pool (es : List (Nat × CpInfo)) (last : Nat) : Array CpInfo := ⟨poolList es last⟩
def fileOf (pool : Array CpInfo) (this : Nat) (attrs : Array Attribute := #[]) (ms : Array MethodInfo := #[]) (fl : Nat := 33) (sup : Nat := 0) (ifs : Array Nat := #[]) (fds : Array FieldInfo := #[]) : ClassFile where
  minorVersion := 0
  majorVersion := 65
  constantPool := pool
  accessFlags := fl
  thisClass := this
  superClass := sup
  interfaces := ifs
  fields := fds
  methods := ms
  attributes := attrs
def plain (name : String) (sup : Option ClassId) : Class where
  name := name
  kind := .ordinary
  loader := none
  accessFlags := 33
  super := sup
  interfaces := #[]
  cf := none
  fields := #[]
  methods := #[]
  instanceTypes := #[]
  staticTypes := #[]
  resolved := #[]
  callSites := []
  init := .initialized
  statics := none
  mirror := none

def pool0 : Array CpInfo := pool [(5, u "<init>"), (0, u "()V"), (1, .class_ 10), (1, u "java/lang/Object")] 113

def k0c0 : Code := { maxStack := 0, maxLocals := 1, code := object_method_1_code, exceptionTable := #[], attributes := #[] }
def k0m0 : Method := { name := "<init>", desc := "()V", sig := { parameters := [], returnType := none }, accessFlags := 1, code := some k0c0 }
/-- java/lang/Object -/
def k0 : Class := { plain "java/lang/Object" none with
  accessFlags := 33
  interfaces := #[]
  cf := some (fileOf pool0 8 #[] #[{ accessFlags := 1, nameIndex := 5, descriptorIndex := 6, attributes := #[] }] 33 0 #[] #[])
  fields := #[]
  methods := #[k0m0]
  instanceTypes := #[]
  staticTypes := #[]
  resolved := Array.replicate 124 none
  statics := none }

def pool1 : Array CpInfo := pool [(2, .class_ 4), (1, u "java/lang/Object"), (0, u "<init>"), (0, u "()V"), (0, .methodref 8 9), (0, .class_ 10), (0, .nameAndType 11 12), (0, u "com/example/libpiecewise/libpiecewise/DfaRunPinLaw"), (0, u "edge"), (0, u "(II)I"), (0, .class_ 14), (0, u "com/example/libpiecewise/libpiecewise/Dfa"), (0, .methodref 13 16), (0, .nameAndType 5 17), (0, u "(II[Z[I)V"), (0, .methodref 8 19), (0, .nameAndType 20 21), (0, u "delta"), (0, u "(III)I"), (0, .methodref 13 23), (0, .nameAndType 24 25), (0, u "run"), (0, u "(I[I)I"), (2, u "law"), (0, u "(III)Z")] 5

def k1m0 : Method := { name := "<init>", desc := "()V", sig := { parameters := [], returnType := none }, accessFlags := 1, code := none }
def k1c1 : Code := { maxStack := 3, maxLocals := 2, code := method_2_code, exceptionTable := #[], attributes := #[] }
def k1m1 : Method := { name := "edge", desc := "(II)I", sig := { parameters := [.int, .int], returnType := some .int }, accessFlags := 10, code := some k1c1 }
def k1c2 : Code := { maxStack := 4, maxLocals := 3, code := method_3_code, exceptionTable := #[], attributes := #[] }
def k1m2 : Method := { name := "delta", desc := "(III)I", sig := { parameters := [.int, .int, .int], returnType := some .int }, accessFlags := 10, code := some k1c2 }
def k1c3 : Code := { maxStack := 6, maxLocals := 17, code := code, exceptionTable := #[], attributes := #[] }
def k1m3 : Method := { name := "law", desc := "(III)Z", sig := { parameters := [.int, .int, .int], returnType := some .boolean }, accessFlags := 9, code := some k1c3 }
/-- com/example/libpiecewise/libpiecewise/DfaRunPinLaw -/
def k1 : Class := { plain "com/example/libpiecewise/libpiecewise/DfaRunPinLaw" (some 0) with
  accessFlags := 49
  interfaces := #[]
  cf := some (fileOf pool1 8 #[] #[{ accessFlags := 1, nameIndex := 5, descriptorIndex := 6, attributes := #[] }, { accessFlags := 10, nameIndex := 11, descriptorIndex := 12, attributes := #[] }, { accessFlags := 10, nameIndex := 20, descriptorIndex := 21, attributes := #[] }, { accessFlags := 9, nameIndex := 28, descriptorIndex := 29, attributes := #[] }] 49 2 #[] #[])
  fields := #[]
  methods := #[k1m0, k1m1, k1m2, k1m3]
  instanceTypes := #[]
  staticTypes := #[]
  resolved := Array.replicate 35 none
  statics := none }

def pool2 : Array CpInfo := pool [(1, .methodref 2 3), (0, .class_ 4), (0, .nameAndType 5 6), (0, u "java/lang/Object"), (0, u "<init>"), (0, u "()V"), (19, .fieldref 27 28), (0, .class_ 29), (0, .nameAndType 30 31), (0, u "com/example/libpiecewise/libpiecewise/Dfa"), (0, u "letterCount"), (0, u "I"), (0, .fieldref 27 33), (0, .nameAndType 34 31), (0, u "initialState"), (0, .fieldref 27 36), (0, .nameAndType 37 38), (0, u "accepting"), (0, u "[Z"), (0, .fieldref 27 40), (0, .nameAndType 41 42), (0, u "next"), (0, u "[I"), (120, u "(II[Z[I)V"), (11, u "run"), (0, u "(I[I)I")] 80

def k2c0 : Code := { maxStack := 7, maxLocals := 5, code := prog_12_method_1_code, exceptionTable := #[], attributes := #[] }
def k2m0 : Method := { name := "<init>", desc := "(II[Z[I)V", sig := { parameters := [.int, .int, (.array .boolean), (.array .int)], returnType := none }, accessFlags := 0, code := some k2c0 }
def k2c1 : Code := { maxStack := 3, maxLocals := 8, code := prog_12_method_8_code, exceptionTable := #[], attributes := #[] }
def k2m1 : Method := { name := "run", desc := "(I[I)I", sig := { parameters := [.int, (.array .int)], returnType := some .int }, accessFlags := 0, code := some k2c1 }
/-- com/example/libpiecewise/libpiecewise/Dfa -/
def k2 : Class := { plain "com/example/libpiecewise/libpiecewise/Dfa" (some 0) with
  accessFlags := 32
  interfaces := #[]
  cf := some (fileOf pool2 27 #[] #[{ accessFlags := 0, nameIndex := 5, descriptorIndex := 163, attributes := #[] }, { accessFlags := 0, nameIndex := 175, descriptorIndex := 176, attributes := #[] }] 32 2 #[] #[{ accessFlags := 18, nameIndex := 30, descriptorIndex := 31, attributes := #[] }, { accessFlags := 18, nameIndex := 34, descriptorIndex := 31, attributes := #[] }, { accessFlags := 18, nameIndex := 37, descriptorIndex := 38, attributes := #[] }, { accessFlags := 18, nameIndex := 41, descriptorIndex := 42, attributes := #[] }])
  fields := #[{ name := "letterCount", type := .int, accessFlags := 18, slot := 0, constantValue := 0 }, { name := "initialState", type := .int, accessFlags := 18, slot := 1, constantValue := 0 }, { name := "accepting", type := (.array .boolean), accessFlags := 18, slot := 2, constantValue := 0 }, { name := "next", type := (.array .int), accessFlags := 18, slot := 3, constantValue := 0 }]
  methods := #[k2m0, k2m1]
  instanceTypes := #[.int, .int, (.array .boolean), (.array .int)]
  staticTypes := #[]
  resolved := Array.replicate 257 none
  statics := none }

def pool3 : Array CpInfo := pool [(1, u "java/lang/Cloneable"), (0, .class_ 1), (0, u "java/lang/Object"), (0, .class_ 3)] 3

/-- java/lang/Cloneable -/
def k3 : Class := { plain "java/lang/Cloneable" (some 0) with
  accessFlags := 1537
  interfaces := #[]
  cf := some (fileOf pool3 2 #[] #[] 1537 4 #[] #[])
  fields := #[]
  methods := #[]
  instanceTypes := #[]
  staticTypes := #[]
  resolved := Array.replicate 8 none
  statics := none }

def pool4 : Array CpInfo := pool [(1, u "java/io/Serializable"), (0, .class_ 1), (0, u "java/lang/Object"), (0, .class_ 3)] 3

/-- java/io/Serializable -/
def k4 : Class := { plain "java/io/Serializable" (some 0) with
  accessFlags := 1537
  interfaces := #[]
  cf := some (fileOf pool4 2 #[] #[] 1537 4 #[] #[])
  fields := #[]
  methods := #[]
  instanceTypes := #[]
  staticTypes := #[]
  resolved := Array.replicate 8 none
  statics := none }

/-- the primitive boolean -/
def k5 : Class := { plain "boolean" none with kind := .primitive 'Z', accessFlags := 0x411 }
/-- [Z -/
def k6 : Class := { plain "[Z" (some 0) with kind := .array 5 .boolean, interfaces := #[3, 4], accessFlags := 1041 }

/-- the primitive byte -/
def k7 : Class := { plain "byte" none with kind := .primitive 'B', accessFlags := 0x411 }
/-- [B -/
def k8 : Class := { plain "[B" (some 0) with kind := .array 7 .byte, interfaces := #[3, 4], accessFlags := 1041 }

/-- the primitive int -/
def k9 : Class := { plain "int" none with kind := .primitive 'I', accessFlags := 0x411 }
/-- [I -/
def k10 : Class := { plain "[I" (some 0) with kind := .array 9 .int, interfaces := #[3, 4], accessFlags := 1041 }

def heap : Heap := #[]
def classes : Array Class := #[k0, k1, k2, k3, k4, k5, k6, k7, k8, k9, k10]
def interned : List (Array UInt16 × Addr) := []
def slotsUsed : Nat := 0
def theMethod : MethodId := ⟨1, 3⟩
def args0 : Array Value := #[.int 5, .int 3, .int 9]
def aboutOver (below : List Frame) : State where
  vm := { classes := classes, interned := interned.toArray }
  heap := heap
  slotsUsed := slotsUsed
  threads := #[{ frames := .invoking theMethod args0 :: below }]
def below0 : List Frame := [.native { method := ⟨0, 0⟩, args := #[] }]
def about1 : State := aboutOver below0
def p0 : Program := .bare "" "" ""
def e0 : Env := launch0.env 0 0 0
theorem w_frames : about1.frames = Frame.invoking theMethod args0 :: below0 := rfl
set_option maxRecDepth 65536 in
theorem w_args : argsFit about1.vm theMethod args0 = true := by decide +kernel
set_option maxRecDepth 65536 in
theorem w_heap : heapFits about1 = true := by decide +kernel
set_option maxRecDepth 65536 in
theorem w_runnable : about1.curStatus? = some .runnable := by decide +kernel
set_option maxRecDepth 65536 in
theorem w_alone : about1.alone = true := by decide +kernel
set_option maxRecDepth 65536 in
theorem w_named : about1.methodNamed? x = some theMethod := by decide +kernel
set_option maxRecDepth 65536 in
theorem w_hears : about1.hears theMethod below0 = true := by decide +kernel
set_option maxRecDepth 65536 in
theorem w_ripe : about1.ripe theMethod args0 below0 = true := by decide +kernel
theorem w_running : about1.status = .running := rfl
set_option maxRecDepth 65536 in
theorem w_room : about1.hasRoom e0.platform room_1 = true :=
  launch0.hasRoom_least _ room_1 (by decide +kernel) (by decide +kernel) (by decide +kernel) (by decide +kernel) (by decide +kernel) (by decide +kernel)
theorem allAtoms_all (ts : List Jvm.Cond) (a : Array Jvm.Value) (st : Jvm.State) : (allAtoms ts).before a st = ts.all (fun c => c.before a st) := by
  induction ts with
  | nil => rfl
  | cons c t ih =>
    show (Jvm.Cond.and c (allAtoms t)).before a st = _
    rw [Jvm.Cond.before_and, ih, List.all_cons]
def words1 : List Jvm.Cond := Jvm.Cond.code x code maxLocals ret :: tables_1
/-- a 'code' word, met by the world's own term for the bytes: nothing is compared byte by byte -/
theorem code_word {y : MethodName} {bytes : ByteArray} {mx : Nat} {rt : Option FieldType} {a : Array Value} {s : State} {m : MethodId} {meth : Method} {c : Code} (h1 : s.methodNamed? y = some m) (h2 : s.vm.method? m = some meth) (h3 : meth.code = some c) (h4 : c.code = bytes)
    (h5 : (c.maxLocals == mx && c.exceptionTable.isEmpty && decide (c.maxStack ≤ mostOperands) && decide (meth.sig.returnType = rt) && !meth.locks && decide (parseMethodDescriptor y.desc = some meth.sig)) = true) : (Jvm.Cond.code y bytes mx rt).before a s = true := by
  simp only [Bool.and_eq_true, beq_iff_eq, Bool.not_eq_true', decide_eq_true_eq] at h5
  obtain ⟨⟨⟨⟨⟨g1, g2⟩, g3⟩, g4⟩, g5⟩, g6⟩ := h5
  simp [Cond.before, Cond.holds, Cond.value, h1, h2, h3, h4, g1, g2, g3, g4, g5, g6]
def isCode : Jvm.Cond → Bool
  | .code _ _ _ _ => true
  | _ => false
theorem all_split {L : List Jvm.Cond} {P : Jvm.Cond → Bool} (h1 : L.all (fun c => isCode c || P c) = true) (h2 : ∀ c ∈ L.filter isCode, P c = true) : L.all P = true := by
  refine List.all_eq_true.mpr fun c hc => ?_
  have h := List.all_eq_true.mp h1 c hc
  rcases Bool.eq_false_or_eq_true (isCode c) with hi | hi
  · exact h2 c (List.mem_filter.mpr ⟨hc, hi⟩)
  · simpa [hi] using h
set_option maxRecDepth 65536 in
theorem w_c0 : (Jvm.Cond.code x code maxLocals ret).before args0 about1 = true := code_word (m := ⟨1, 3⟩) (meth := k1m3) (c := k1c3) (by decide +kernel) rfl rfl rfl (by decide +kernel)
set_option maxRecDepth 65536 in
theorem w_c1 : (Jvm.Cond.code ({ cls := "com/example/libpiecewise/libpiecewise/DfaRunPinLaw", name := "edge", desc := "(II)I" } : Jvm.MethodName) method_2_code (2 : Nat) (Option.some Jvm.ClassFile.FieldType.int)).before args0 about1 = true := code_word (m := ⟨1, 1⟩) (meth := k1m1) (c := k1c1) (by decide +kernel) rfl rfl rfl (by decide +kernel)
set_option maxRecDepth 65536 in
theorem w_c2 : (Jvm.Cond.code ({ cls := "com/example/libpiecewise/libpiecewise/Dfa", name := "<init>", desc := "(II[Z[I)V" } : Jvm.MethodName) prog_12_method_1_code (5 : Nat) (Option.none : Option Jvm.ClassFile.FieldType)).before args0 about1 = true := code_word (m := ⟨2, 0⟩) (meth := k2m0) (c := k2c0) (by decide +kernel) rfl rfl rfl (by decide +kernel)
set_option maxRecDepth 65536 in
theorem w_c3 : (Jvm.Cond.code ({ cls := "java/lang/Object", name := "<init>", desc := "()V" } : Jvm.MethodName) object_method_1_code (1 : Nat) (Option.none : Option Jvm.ClassFile.FieldType)).before args0 about1 = true := code_word (m := ⟨0, 0⟩) (meth := k0m0) (c := k0c0) (by decide +kernel) rfl rfl rfl (by decide +kernel)
set_option maxRecDepth 65536 in
theorem w_c4 : (Jvm.Cond.code ({ cls := "com/example/libpiecewise/libpiecewise/DfaRunPinLaw", name := "delta", desc := "(III)I" } : Jvm.MethodName) method_3_code (3 : Nat) (Option.some Jvm.ClassFile.FieldType.int)).before args0 about1 = true := code_word (m := ⟨1, 2⟩) (meth := k1m2) (c := k1c2) (by decide +kernel) rfl rfl rfl (by decide +kernel)
set_option maxRecDepth 65536 in
theorem w_c5 : (Jvm.Cond.code ({ cls := "com/example/libpiecewise/libpiecewise/Dfa", name := "run", desc := "(I[I)I" } : Jvm.MethodName) prog_12_method_8_code (8 : Nat) (Option.some Jvm.ClassFile.FieldType.int)).before args0 about1 = true := code_word (m := ⟨2, 1⟩) (meth := k2m1) (c := k2c1) (by decide +kernel) rfl rfl rfl (by decide +kernel)
def codes1 : List Jvm.Cond := [Jvm.Cond.code x code maxLocals ret, Jvm.Cond.code ({ cls := "com/example/libpiecewise/libpiecewise/DfaRunPinLaw", name := "edge", desc := "(II)I" } : Jvm.MethodName) method_2_code (2 : Nat) (Option.some Jvm.ClassFile.FieldType.int), Jvm.Cond.code ({ cls := "com/example/libpiecewise/libpiecewise/Dfa", name := "<init>", desc := "(II[Z[I)V" } : Jvm.MethodName) prog_12_method_1_code (5 : Nat) (Option.none : Option Jvm.ClassFile.FieldType), Jvm.Cond.code ({ cls := "java/lang/Object", name := "<init>", desc := "()V" } : Jvm.MethodName) object_method_1_code (1 : Nat) (Option.none : Option Jvm.ClassFile.FieldType), Jvm.Cond.code ({ cls := "com/example/libpiecewise/libpiecewise/DfaRunPinLaw", name := "delta", desc := "(III)I" } : Jvm.MethodName) method_3_code (3 : Nat) (Option.some Jvm.ClassFile.FieldType.int), Jvm.Cond.code ({ cls := "com/example/libpiecewise/libpiecewise/Dfa", name := "run", desc := "(I[I)I" } : Jvm.MethodName) prog_12_method_8_code (8 : Nat) (Option.some Jvm.ClassFile.FieldType.int)]
set_option maxRecDepth 65536 in
theorem codes_eq : words1.filter isCode = codes1 := rfl
theorem w_codes : ∀ c ∈ words1.filter isCode, c.before args0 about1 = true := by
  rw [codes_eq]
  intro c hc
  simp only [codes1, List.mem_cons, List.not_mem_nil, or_false] at hc
  rcases hc with rfl | rfl | rfl | rfl | rfl | rfl
  · exact w_c0
  · exact w_c1
  · exact w_c2
  · exact w_c3
  · exact w_c4
  · exact w_c5
set_option maxRecDepth 65536 in
theorem w_t1 : (words1.take 24).all (fun c => isCode c || c.before args0 about1) = true := by decide +kernel
set_option maxRecDepth 65536 in
theorem w_t2 : (words1.drop 24).all (fun c => isCode c || c.before args0 about1) = true := by decide +kernel
theorem w_tables : (allAtoms (Jvm.Cond.code x code maxLocals ret :: tables_1)).before args0 about1 = true := by
  rw [allAtoms_all]
  show words1.all (fun c => c.before args0 about1) = true
  refine all_split ?_ w_codes
  rw [← List.take_append_drop 24 words1, List.all_append, w_t1, w_t2]
  rfl
set_option maxRecDepth 65536 in
theorem w_case : (Jvm.Cond.and given_1 narrow_1).before args0 about1 = true := by decide +kernel
theorem w_applies : (headSpec (Jvm.Cond.code x code maxLocals ret :: tables_1) room_1).applies x e0.platform about1 = true :=
  (Spec.applies_iff w_frames).mpr ⟨w_running, w_runnable, w_alone, w_named, w_hears, w_ripe, w_room, w_tables⟩
theorem atStart : AtStart classFile x code maxLocals ret World_1 tables_1 room_1 Calls_1 rest_1 Pre_1 launch0 p0 e0 about1 theMethod args0 below0 :=
  ⟨lists_1, trivial, launch0.admits_env _ _ _, launch0.least_env, fairChoices_fair.cas, fairChoices_fair.clock, w_frames, w_args, w_heap, w_applies, trivial, trivial, w_case⟩
end start1
theorem witness_1 : WitnessClaimed_1 := ⟨start1.p0, start1.e0, start1.about1, start1.theMethod, start1.args0, start1.below0, start1.atStart⟩
end Jvm.Pilot.@@N@@
