import JvmDerived
import JvmDerived.Pilot.@@N@@Statement
import JvmDerived.Pilot.@@N@@Code
set_option linter.unusedVariables false
set_option linter.unusedSimpArgs false
namespace Jvm.RoadKit
open Sem ClassFile Op Lib Jvm.Stand Jvm.Free Jvm.LawKit
section New
variable {p : Program} {l : Launch} {e : Env} {R : Room} {s : State} {m : MethodId} {args : Array Value} {below : List Frame} {meth : Method} {c : Code} {T : State} {locs : List Loc} {cells slots : Nat}
theorem retI (X : Stand p l e R s m args below meth c T locs cells slots) (hx : p.tables.exec = Jvm.exec) {pc : Nat} {Ls : Array Slot} {z : Int32} {rest : List Value} (hret : meth.sig.returnType = some .int) (hd : decode c.code pc = .ok (.ireturn, 1)) {fs : List Frame}
    (hl : ∀ (f : JFrame) (acts : List Action), f.method = m → f.locked = none → f.entered = [] → (doReturn e (T.setTop f) acts (some (.int z))).1 = T.setFrames fs) : Steps p.tables e below (T.setTop (mkF m pc Ls (.int z :: rest))) (T.setFrames fs) := by
  have hm' : T.vm.method? m = some meth := X.method'
  have hn : narrow .int (.int z) = .int z := rfl
  show Steps p.tables e below (T.setTop { method := m, pc := pc, locals := Ls, stack := _ :: rest, locked := none }) _
  jvm_step X.here [X.here.top, hx, hd, hm', hret, hn]
  first | (intro acts; rw [hl _ acts rfl rfl rfl]) | rw [hl _ _ rfl rfl rfl]
  exact Steps.refl _
end New
end Jvm.RoadKit
namespace Jvm.Pilot.@@N@@
open Jvm Jvm.ClassFile Sem Op Lib Jvm.Free Jvm.Stand Jvm.LawKit Jvm.RoadKit Bundle Jvm.Pilot.@@N@@.Jvm.D
def own_sel (c : Bool) (t f : Int32) : Int32 := bif c then t else f
theorem own_bif {tb : Tables} [Ours tb] {e : Env} {below : List Frame} {T target : State} {m : MethodId} {c : Code} {g : JFrame} (h : At T m c below) (hx : tb.exec = Jvm.exec) (hg : g.method = m) {cd : ClassFile.Cond} {x : Int32} {rest : List Value} {v1 v0 : Int} {pc0 : Nat} (hpc : g.pc = pc0) (hd : decode c.code pc0 = .ok (.ifCond cd 7, 3)) (hd1 : decode c.code (pc0 + 3) = .ok (.iconst v1, 1)) (hd2 : decode c.code (pc0 + 4) = .ok (.goto 4, 3)) (hd3 : decode c.code (pc0 + 7) = .ok (.iconst v0, 1)) (hs : g.stack = .int x :: rest)
    (hr : Steps tb e below (T.setTop { g with pc := pc0 + 8, stack := .int (own_sel (if_icmp.holds cd x 0) (Int32.ofInt v0) (Int32.ofInt v1)) :: rest }) target) : Steps tb e below (T.setTop g) target := by
  subst hpc
  cases hh : if_icmp.holds cd x 0 with
  | true =>
    refine XS.ifYes h hx hg (pc0 := g.pc) (pc' := g.pc + 7) rfl hd hs ((if0 _ _).trans hh) (by omega) (by omega) ?_
    refine XS.iconst h hx hg hd3 ?_
    rw [hh] at hr
    exact hr
  | false =>
    refine XS.ifNo h hx hg hd hs ((if0 _ _).trans hh) ?_
    refine XS.iconst h hx hg hd1 ?_
    refine XS.goto h hx hg (pc0 := g.pc + 4) (pc' := g.pc + 8) rfl hd2 (by omega) (by omega) ?_
    rw [hh] at hr
    exact hr
theorem own_bicmp {tb : Tables} [Ours tb] {e : Env} {below : List Frame} {T target : State} {m : MethodId} {c : Code} {g : JFrame} (h : At T m c below) (hx : tb.exec = Jvm.exec) (hg : g.method = m) {cd : ClassFile.Cond} {x y : Int32} {rest : List Value} {v1 v0 : Int} {pc0 : Nat} (hpc : g.pc = pc0) (hd : decode c.code pc0 = .ok (.if_icmp cd 7, 3)) (hd1 : decode c.code (pc0 + 3) = .ok (.iconst v1, 1)) (hd2 : decode c.code (pc0 + 4) = .ok (.goto 4, 3)) (hd3 : decode c.code (pc0 + 7) = .ok (.iconst v0, 1)) (hs : g.stack = .int y :: .int x :: rest)
    (hr : Steps tb e below (T.setTop { g with pc := pc0 + 8, stack := .int (own_sel (if_icmp.holds cd x y) (Int32.ofInt v0) (Int32.ofInt v1)) :: rest }) target) : Steps tb e below (T.setTop g) target := by
  subst hpc
  cases hh : if_icmp.holds cd x y with
  | true =>
    refine XS.icmpYes h hx hg (pc0 := g.pc) (pc' := g.pc + 7) rfl hd hs hh (by omega) (by omega) ?_
    refine XS.iconst h hx hg hd3 ?_
    rw [hh] at hr
    exact hr
  | false =>
    refine XS.icmpNo h hx hg hd hs hh ?_
    refine XS.iconst h hx hg hd1 ?_
    refine XS.goto h hx hg (pc0 := g.pc + 4) (pc' := g.pc + 8) rfl hd2 (by omega) (by omega) ?_
    rw [hh] at hr
    exact hr
theorem own_nar_sel (b : Bool) : nar .boolean (own_sel b (0 : Int32) (1 : Int32)) = own_sel b (0 : Int32) (1 : Int32) := by cases b <;> decide
section OwnRet
variable {p : Program} {l : Launch} {e : Env} {R : Room} {s : State} {m : MethodId} {args : Array Value} {below : List Frame} {meth : Method} {c : Code} {T : State} {locs : List Loc} {cells slots : Nat}
theorem own_retN (X : Stand p l e R s m args below meth c T locs cells slots) (hx : p.tables.exec = Jvm.exec) {pc : Nat} {Ls : Array Slot} {z : Int32} {t : FieldType} {rest : List Value} (hret : meth.sig.returnType = some t) (ht : t = .boolean ∨ t = .byte ∨ t = .char ∨ t = .short)
    (hd : decode c.code pc = .ok (.ireturn, 1)) (hz : nar t z = z) {fs : List Frame} (hl : ∀ (f : JFrame) (acts : List Action), f.method = m → f.locked = none → f.entered = [] → (doReturn e (T.setTop f) acts (some (.int z))).1 = T.setFrames fs) :
    Steps p.tables e below (T.setTop (mkF m pc Ls (.int z :: rest))) (T.setFrames fs) :=
  retN X hx hret ht hd (by rw [hz]; exact hl)
end OwnRet
theorem own_keep_eq {h h' : Heap} {ws : List Addr} (e : h' = h) : Keep h h' ws := by subst e; exact Keep.refl _ _
abbrev own_rem (x y : Int32) : Int32 := x % y
theorem own_irem {tb : Tables} [Ours tb] {e : Env} {below : List Frame} {T target : State} {m : MethodId} {c : Code} {g : JFrame} (h : At T m c below) (hx : tb.exec = Jvm.exec) (hg : g.method = m) {x y : Int32} {rest : List Value} (hd : decode c.code g.pc = .ok (.irem, 1)) (hs : g.stack = .int y :: .int x :: rest) (hy : y ≠ 0)
    (hr : Steps tb e below (T.setTop { g with pc := g.pc + 1, stack := .int (own_rem x y) :: rest }) target) : Steps tb e below (T.setTop g) target :=
  XS.irem h hx hg hd hs hy (by rw [Jvm.irem_eq_mod]; exact hr)
theorem own_stand_le {p : Program} {l : Launch} {e : Env} {R : Room} {s : State} {m : MethodId} {args : Array Value} {below : List Frame} {meth : Method} {c : Code} {T : State} {locs : List Loc} {cells slots cells' slots' : Nat} (X : Stand p l e R s m args below meth c T locs cells slots) (h1 : cells ≤ cells') (h2 : slots ≤ slots') : Stand p l e R s m args below meth c T locs cells' slots' :=
  { X with same := X.same.mono h1 h2 }
theorem own_sta_keep {Z : State} {h h' : Heap} {C n d : String} {v : Value} (S : Sta Z h C n d v) (K : Keep h h' []) : Sta Z h' C n d v := by
  obtain ⟨cf, i, k, f, st, cell, h1, h2, h3, h4, h5, h6, h7⟩ := S
  exact ⟨cf, i, k, f, st, cell, h1, h2, h3, h4, K.2.1 _ _ h5 List.not_mem_nil, h6, h7⟩
theorem d1_0 : decode prog_28_method_1_code 0 = .ok (.aload_n 0, 1) := by decide +kernel
theorem d1_1 : decode prog_28_method_1_code 1 = .ok (.invokespecial 1, 3) := by decide +kernel
theorem d1_4 : decode prog_28_method_1_code 4 = .ok (.return_, 1) := by decide +kernel
theorem pn_1 : plainName "com/example/olm/olm/db/Parentheses" = true := by first | (simp [plainName, overriddenIn]; done) | decide +kernel
theorem ef_1 (m : MethodId) (x0 : Addr) : entryFrame m #[(.ref x0)] 1 = mkF m 0 #[.val (.ref x0)] [] := by first | (simp [entryFrame, mkF, argsToLocals, Value.category]; done) | rfl
theorem d3_0 : decode prog_28_method_3_code 0 = .ok (.aload_n 0, 1) := by decide +kernel
theorem d3_1 : decode prog_28_method_3_code 1 = .ok (.getfield 7, 3) := by decide +kernel
theorem d3_4 : decode prog_28_method_3_code 4 = .ok (.ifCond .ne 7, 3) := by decide +kernel
theorem d3_7 : decode prog_28_method_3_code 7 = .ok (.iconst 1, 1) := by decide +kernel
theorem d3_8 : decode prog_28_method_3_code 8 = .ok (.goto 4, 3) := by decide +kernel
theorem d3_11 : decode prog_28_method_3_code 11 = .ok (.iconst 0, 1) := by decide +kernel
theorem d3_12 : decode prog_28_method_3_code 12 = .ok (.ireturn, 1) := by decide +kernel
theorem pn_3 : plainName "com/example/olm/olm/db/Parentheses" = true := by first | (simp [plainName, overriddenIn]; done) | decide +kernel
theorem ef_3 (m : MethodId) (x0 : Addr) : entryFrame m #[(.ref x0)] 1 = mkF m 0 #[.val (.ref x0)] [] := by first | (simp [entryFrame, mkF, argsToLocals, Value.category]; done) | rfl
theorem d4_0 : decode method_3_code 0 = .ok (.iload_n 0, 1) := by decide +kernel
theorem d4_1 : decode method_3_code 1 = .ok (.iconst 3, 1) := by decide +kernel
theorem d4_2 : decode method_3_code 2 = .ok (.iand, 1) := by decide +kernel
theorem d4_3 : decode method_3_code 3 = .ok (.istore_n 1, 1) := by decide +kernel
theorem d4_4 : decode method_3_code 4 = .ok (.iload_n 1, 1) := by decide +kernel
theorem d4_5 : decode method_3_code 5 = .ok (.ifCond .ne 5, 3) := by decide +kernel
theorem d4_8 : decode method_3_code 8 = .ok (.iconst 1, 1) := by decide +kernel
theorem d4_9 : decode method_3_code 9 = .ok (.ireturn, 1) := by decide +kernel
theorem pn_4 : plainName "com/example/olm/olm/db/ParenthesesReadPinLaw" = true := by first | (simp [plainName, overriddenIn]; done) | decide +kernel
theorem ef_4 (m : MethodId) (x0 : Int32) : entryFrame m #[(.int x0)] 2 = mkF m 0 #[.val (.int x0), .unset] [] := by first | (simp [entryFrame, mkF, argsToLocals, Value.category]; done) | rfl
theorem d4_10 : decode method_3_code 10 = .ok (.iload_n 1, 1) := by decide +kernel
theorem d4_11 : decode method_3_code 11 = .ok (.iconst 1, 1) := by decide +kernel
theorem d4_12 : decode method_3_code 12 = .ok (.if_icmp .ne 5, 3) := by decide +kernel
theorem d4_15 : decode method_3_code 15 = .ok (.iconst (-1), 1) := by decide +kernel
theorem d4_16 : decode method_3_code 16 = .ok (.ireturn, 1) := by decide +kernel
theorem d4_17 : decode method_3_code 17 = .ok (.iconst 0, 1) := by decide +kernel
theorem d4_18 : decode method_3_code 18 = .ok (.ireturn, 1) := by decide +kernel
theorem d5_0 : decode method_2_code 0 = .ok (.iload_n 0, 1) := by decide +kernel
theorem d5_1 : decode method_2_code 1 = .ok (.iconst 3, 1) := by decide +kernel
theorem d5_2 : decode method_2_code 2 = .ok (.iand, 1) := by decide +kernel
theorem d5_3 : decode method_2_code 3 = .ok (.istore_n 1, 1) := by decide +kernel
theorem d5_4 : decode method_2_code 4 = .ok (.iload_n 1, 1) := by decide +kernel
theorem d5_5 : decode method_2_code 5 = .ok (.ifCond .ne 6, 3) := by decide +kernel
theorem d5_8 : decode method_2_code 8 = .ok (.bipush 40, 2) := by decide +kernel
theorem d5_10 : decode method_2_code 10 = .ok (.ireturn, 1) := by decide +kernel
theorem pn_5 : plainName "com/example/olm/olm/db/ParenthesesReadPinLaw" = true := by first | (simp [plainName, overriddenIn]; done) | decide +kernel
theorem ef_5 (m : MethodId) (x0 : Int32) : entryFrame m #[(.int x0)] 3 = mkF m 0 #[.val (.int x0), .unset, .unset] [] := by first | (simp [entryFrame, mkF, argsToLocals, Value.category]; done) | rfl
theorem d5_11 : decode method_2_code 11 = .ok (.iload_n 1, 1) := by decide +kernel
theorem d5_12 : decode method_2_code 12 = .ok (.iconst 1, 1) := by decide +kernel
theorem d5_13 : decode method_2_code 13 = .ok (.if_icmp .ne 6, 3) := by decide +kernel
theorem d5_16 : decode method_2_code 16 = .ok (.bipush 41, 2) := by decide +kernel
theorem d5_18 : decode method_2_code 18 = .ok (.ireturn, 1) := by decide +kernel
theorem d5_19 : decode method_2_code 19 = .ok (.iload_n 0, 1) := by decide +kernel
theorem d5_20 : decode method_2_code 20 = .ok (.iconst 2, 1) := by decide +kernel
theorem d5_21 : decode method_2_code 21 = .ok (.iushr, 1) := by decide +kernel
theorem d5_22 : decode method_2_code 22 = .ok (.i2c, 1) := by decide +kernel
theorem d5_23 : decode method_2_code 23 = .ok (.istore_n 2, 1) := by decide +kernel
theorem d5_24 : decode method_2_code 24 = .ok (.iload_n 2, 1) := by decide +kernel
theorem d5_25 : decode method_2_code 25 = .ok (.bipush 40, 2) := by decide +kernel
theorem d5_27 : decode method_2_code 27 = .ok (.if_icmp .eq 9, 3) := by decide +kernel
theorem d5_36 : decode method_2_code 36 = .ok (.iload_n 2, 1) := by decide +kernel
theorem d5_37 : decode method_2_code 37 = .ok (.iconst 2, 1) := by decide +kernel
theorem d5_38 : decode method_2_code 38 = .ok (.iadd, 1) := by decide +kernel
theorem d5_39 : decode method_2_code 39 = .ok (.i2c, 1) := by decide +kernel
theorem d5_40 : decode method_2_code 40 = .ok (.istore_n 2, 1) := by decide +kernel
theorem d5_41 : decode method_2_code 41 = .ok (.iload_n 2, 1) := by decide +kernel
theorem d5_42 : decode method_2_code 42 = .ok (.ireturn, 1) := by decide +kernel
theorem d5_30 : decode method_2_code 30 = .ok (.iload_n 2, 1) := by decide +kernel
theorem d5_31 : decode method_2_code 31 = .ok (.bipush 41, 2) := by decide +kernel
theorem d5_33 : decode method_2_code 33 = .ok (.if_icmp .ne 8, 3) := by decide +kernel
theorem d6_0 : decode prog_28_method_2_code 0 = .ok (.iload_n 1, 1) := by decide +kernel
theorem d6_1 : decode prog_28_method_2_code 1 = .ok (.bipush 40, 2) := by decide +kernel
theorem d6_3 : decode prog_28_method_2_code 3 = .ok (.if_icmp .ne 16, 3) := by decide +kernel
theorem d6_6 : decode prog_28_method_2_code 6 = .ok (.aload_n 0, 1) := by decide +kernel
theorem d6_7 : decode prog_28_method_2_code 7 = .ok (.dup, 1) := by decide +kernel
theorem d6_8 : decode prog_28_method_2_code 8 = .ok (.getfield 7, 3) := by decide +kernel
theorem d6_11 : decode prog_28_method_2_code 11 = .ok (.iconst 1, 1) := by decide +kernel
theorem d6_12 : decode prog_28_method_2_code 12 = .ok (.iadd, 1) := by decide +kernel
theorem d6_13 : decode prog_28_method_2_code 13 = .ok (.putfield 7, 3) := by decide +kernel
theorem d6_16 : decode prog_28_method_2_code 16 = .ok (.goto 19, 3) := by decide +kernel
theorem d6_35 : decode prog_28_method_2_code 35 = .ok (.aload_n 0, 1) := by decide +kernel
theorem d6_36 : decode prog_28_method_2_code 36 = .ok (.getfield 7, 3) := by decide +kernel
theorem d6_39 : decode prog_28_method_2_code 39 = .ok (.ifCond .lt 7, 3) := by decide +kernel
theorem d6_42 : decode prog_28_method_2_code 42 = .ok (.iconst 1, 1) := by decide +kernel
theorem d6_43 : decode prog_28_method_2_code 43 = .ok (.goto 4, 3) := by decide +kernel
theorem d6_46 : decode prog_28_method_2_code 46 = .ok (.iconst 0, 1) := by decide +kernel
theorem d6_47 : decode prog_28_method_2_code 47 = .ok (.ireturn, 1) := by decide +kernel
theorem pn_6 : plainName "com/example/olm/olm/db/Parentheses" = true := by first | (simp [plainName, overriddenIn]; done) | decide +kernel
theorem ef_6 (m : MethodId) (x0 : Addr) (x1 : Int32) : entryFrame m #[(.ref x0), (.int x1)] 2 = mkF m 0 #[.val (.ref x0), .val (.int x1)] [] := by first | (simp [entryFrame, mkF, argsToLocals, Value.category]; done) | rfl
theorem d6_19 : decode prog_28_method_2_code 19 = .ok (.iload_n 1, 1) := by decide +kernel
theorem d6_20 : decode prog_28_method_2_code 20 = .ok (.bipush 41, 2) := by decide +kernel
theorem d6_22 : decode prog_28_method_2_code 22 = .ok (.if_icmp .ne 13, 3) := by decide +kernel
theorem d6_25 : decode prog_28_method_2_code 25 = .ok (.aload_n 0, 1) := by decide +kernel
theorem d6_26 : decode prog_28_method_2_code 26 = .ok (.dup, 1) := by decide +kernel
theorem d6_27 : decode prog_28_method_2_code 27 = .ok (.getfield 7, 3) := by decide +kernel
theorem d6_30 : decode prog_28_method_2_code 30 = .ok (.iconst 1, 1) := by decide +kernel
theorem d6_31 : decode prog_28_method_2_code 31 = .ok (.isub, 1) := by decide +kernel
theorem d6_32 : decode prog_28_method_2_code 32 = .ok (.putfield 7, 3) := by decide +kernel
theorem pn_0 : plainName "com/example/olm/olm/db/ParenthesesReadPinLaw" = true := by first | (simp [plainName, overriddenIn]; done) | decide +kernel
theorem pd_0_0 : parseMethodDescriptor "()V" = some ⟨[], none⟩ := by decide +kernel
theorem pd_0_1 : parseMethodDescriptor "()Z" = some ⟨[], some .boolean⟩ := by decide +kernel
theorem ef_0 (m : MethodId) (x0 : Int32) (x1 : Int32) (x2 : Int32) (x3 : Int32) : entryFrame m #[(.int x0), (.int x1), (.int x2), (.int x3)] maxLocals = mkF m 0 #[.val (.int x0), .val (.int x1), .val (.int x2), .val (.int x3), .unset, .unset, .unset, .unset, .unset] [] := by first | (simp [entryFrame, mkF, argsToLocals, Value.category, maxLocals]; done) | rfl
theorem pd_0_2 : parseMethodDescriptor "(I)I" = some ⟨[.int], some .int⟩ := by decide +kernel
theorem pd_0_3 : parseMethodDescriptor "(I)C" = some ⟨[.int], some .char⟩ := by decide +kernel
theorem pd_0_4 : parseMethodDescriptor "(C)Z" = some ⟨[.char], some .boolean⟩ := by decide +kernel
def own_delta (x : Int32) : Int32 := if (x &&& (3 : Int32)) = (0 : Int32) then 1 else if (x &&& (3 : Int32)) = (1 : Int32) then -1 else 0
def own_char (x : Int32) : Int32 := x.toUInt32.toUInt16.toUInt32.toInt32
def own_ch (x : Int32) : Int32 := own_char ((x.toUInt32 >>> ((2 : Int32) &&& 31).toUInt32).toInt32)
def own_draw (x : Int32) : Int32 := if (x &&& (3 : Int32)) = (0 : Int32) then 40 else if (x &&& (3 : Int32)) = (1 : Int32) then 41 else if own_ch x = 40 then own_char (own_ch x + 2) else if own_ch x = 41 then own_char (own_ch x + 2) else own_ch x
def own_read (c w : Int32) : Int32 := if c = 40 then w + 1 else if c = 41 then w - 1 else w
theorem own_nar_char (x : Int32) : nar .char (x.toUInt32.toUInt16.toUInt32.toInt32) = x.toUInt32.toUInt16.toUInt32.toInt32 := by
  show (x.toUInt32.toUInt16.toUInt32.toInt32).toUInt32.toUInt16.toUInt32.toInt32 = _
  generalize x.toUInt32.toUInt16 = u
  simp
theorem own_meet (x w : Int32) : own_read (own_draw x) w = w + own_delta x := by
  unfold own_draw own_delta
  by_cases h0 : (x &&& (3 : Int32)) = (0 : Int32)
  · rw [if_pos h0, if_pos h0]; rfl
  · rw [if_neg h0, if_neg h0]
    by_cases h1 : (x &&& (3 : Int32)) = (1 : Int32)
    · rw [if_pos h1, if_pos h1]
      show w - 1 = w + -1
      exact Int32.sub_eq_add_neg w 1
    · rw [if_neg h1, if_neg h1]
      have z : w + 0 = w := Int32.add_zero w
      rw [z]
      by_cases h2 : own_ch x = 40
      · rw [if_pos h2, h2]; rfl
      · rw [if_neg h2]
        by_cases h3 : own_ch x = 41
        · rw [if_pos h3, h3]; rfl
        · rw [if_neg h3]; unfold own_read; rw [if_neg h2, if_neg h3]
def Q1 (Z : State) (a1 : Addr) (h0 : Heap) (n0 : Nat) (v : Option Value) (h : Heap) (L : List Loc) : Prop := v = none ∧ Fr n0 L ∧ h = h0
set_option maxRecDepth 65536 in
set_option maxHeartbeats 40000000 in
theorem rm1 (l : Launch) (Z : State) (a0 : Array Value) (hw : ∀ d ∈ tables_1, d.before a0 Z = true) (ws : List Jvm.Cond) (a1 : Addr) (h0 : Heap) (n0 : Nat) (Z0 : n0 ≤ h0.size) :
    MetFree l (⟨"com/example/olm/olm/db/Parentheses", "<init>", "()V"⟩ : MethodName) (head1 (Jvm.Cond.code (⟨"com/example/olm/olm/db/Parentheses", "<init>", "()V"⟩ : MethodName) prog_28_method_1_code 1 none :: ws) ({ frames := 1, cells := 0, slots := 0, locals := 12 } : Room)) (fun a U => a = #[(.ref a1)] ∧ Z.Warmed39 U.vm ∧ U.heap = h0) (fun _ _ _ _ _ => True) (fun _ U o U' => ∃ v L, o = .returned v ∧ Q1 Z a1 h0 n0 v U'.heap L ∧ FrameEnd U o U' L ({ frames := 1, cells := 0, slots := 0, locals := 12 } : Room).cells ({ frames := 1, cells := 0, slots := 0, locals := 12 } : Room).slots) := by
  refine MetFree.of_bodySF (plainFor_of_name pn_1) hisR ?_
  intro p e s m args below meth c s₁ Bd hml0 hP hK
  obtain ⟨rfl, hZ, hh⟩ := hP
  have hx := Bd.exec
  have hby := Bd.bytes
  have hml : c.maxLocals = 1 := hml0
  have hown : s.vm.findClass "com/example/olm/olm/db/Parentheses" = some m.cls := findClass_of_methodNamed Bd.named
  have hnm := (name_of_methodNamed Bd.named Bd.method).1
  have X0 : Stand p l e ({ frames := 1, cells := 0, slots := 0, locals := 12 } : Room) s m #[(.ref a1)] below meth c s₁ [] 0 0 := Stand.of_body Bd
  have e0 : s₁.heap = h0 := by rw [← hh, Bd.state]; rfl
  have N0 := Fr.nil n0
  have pre0 : ∀ t, Steps p.tables e below (s₁.setTop (mkF m 0 #[.val (.ref a1)] [])) t → Steps p.tables e below (s₁.setTop (entryFrame m #[(.ref a1)] 1)) t := fun t k => castTop (ef_1 m a1) k
  obtain ⟨T2, X2, e2, st2⟩ := initO X0 hx hZ hown (hw _ (List.mem_of_getElem? (i := 6) rfl)) (hw _ (List.mem_of_getElem? (i := 7) rfl)) (hw _ (List.mem_of_getElem? (i := 8) rfl)) e0 (g := (mkF m 1 #[.val (.ref a1)] [(.ref a1)])) rfl (by rw [hml]; rfl) rfl (hb hby d1_1) (by decide) (W := 0) (by show 2 * 0 + _ ≤ _; exact Nat.le_of_eq rfl) (by decide)
  obtain ⟨fs, hr, hrun, hended, hW, hsame⟩ := X2.leave (v := none) (fun _ => rfl)
  refine ⟨_, _, pre0 _ ?_, hrun, hended, _, _, rfl, ?_, ⟨_, rfl⟩, hW, hsame.mono (by decide) (by decide)⟩
  · show Steps p.tables e below (s₁.setTop (mkF m 0 #[.val (.ref a1)] [])) _
    refine XS.aloadN X0.here hx rfl (hb hby d1_0) rfl rfl ?_
    show Steps p.tables e below (s₁.setTop (mkF m 1 #[.val (.ref a1)] [(.ref a1)])) _
    refine st2 _ ?_
    show Steps p.tables e below (T2.setTop (mkF m 4 #[.val (.ref a1)] [])) _
    exact X2.returnOut hx Bd.returns (hb hby d1_4) hr
  · show Q1 Z a1 h0 n0 _ T2.heap _
    rw [e2]
    exact ⟨rfl, N0, rfl⟩

def Q3 (Z : State) (a1 : Addr) (w2 : Int32) (h0 : Heap) (n0 : Nat) (v : Option Value) (h : Heap) (L : List Loc) : Prop := v = some (.int (own_sel (if_icmp.holds .ne w2 (0 : Int32)) (0 : Int32) (1 : Int32))) ∧ Fr n0 L ∧ h = h0
set_option maxRecDepth 65536 in
set_option maxHeartbeats 40000000 in
theorem rm3 (l : Launch) (Z : State) (a0 : Array Value) (hw : ∀ d ∈ tables_1, d.before a0 Z = true) (ws : List Jvm.Cond) (a1 : Addr) (w2 : Int32) (h0 : Heap) (n0 : Nat) (Z0 : n0 ≤ h0.size) (F_depth_a1 : Fld Z h0 a1 "com/example/olm/olm/db/Parentheses" "depth" "I" (.int w2)) :
    MetFree l (⟨"com/example/olm/olm/db/Parentheses", "isClosed", "()Z"⟩ : MethodName) (head1 (Jvm.Cond.code (⟨"com/example/olm/olm/db/Parentheses", "isClosed", "()Z"⟩ : MethodName) prog_28_method_3_code 1 (some .boolean) :: ws) ({ frames := 0, cells := 0, slots := 0, locals := 0 } : Room)) (fun a U => a = #[(.ref a1)] ∧ Z.Warmed39 U.vm ∧ U.heap = h0) (fun _ _ _ _ _ => True) (fun _ U o U' => ∃ v L, o = .returned v ∧ Q3 Z a1 w2 h0 n0 v U'.heap L ∧ FrameEnd U o U' L ({ frames := 0, cells := 0, slots := 0, locals := 0 } : Room).cells ({ frames := 0, cells := 0, slots := 0, locals := 0 } : Room).slots) := by
  refine MetFree.of_bodySF (plainFor_of_name pn_3) hisR ?_
  intro p e s m args below meth c s₁ Bd hml0 hP hK
  obtain ⟨rfl, hZ, hh⟩ := hP
  have hx := Bd.exec
  have hby := Bd.bytes
  have hml : c.maxLocals = 1 := hml0
  have hown : s.vm.findClass "com/example/olm/olm/db/Parentheses" = some m.cls := findClass_of_methodNamed Bd.named
  have hnm := (name_of_methodNamed Bd.named Bd.method).1
  have X0 : Stand p l e ({ frames := 0, cells := 0, slots := 0, locals := 0 } : Room) s m #[(.ref a1)] below meth c s₁ [] 0 0 := Stand.of_body Bd
  have e0 : s₁.heap = h0 := by rw [← hh, Bd.state]; rfl
  have N0 := Fr.nil n0
  have pre0 : ∀ t, Steps p.tables e below (s₁.setTop (mkF m 0 #[.val (.ref a1)] [])) t → Steps p.tables e below (s₁.setTop (entryFrame m #[(.ref a1)] 1)) t := fun t k => castTop (ef_3 m a1) k
  obtain ⟨T3, X3, e3, st3⟩ := getF X0 hx hZ hown (host := "") (Or.inl (hw _ (List.mem_of_getElem? (i := 14) rfl))) Via.refl e0 F_depth_a1 (g := (mkF m 1 #[.val (.ref a1)] [(.ref a1)])) rfl rfl (hb hby d3_1)
  obtain ⟨fs, hr, hrun, hended, hW, hsame⟩ := X3.leave (v := some (.int (own_sel (if_icmp.holds .ne w2 (0 : Int32)) (0 : Int32) (1 : Int32)))) (fun h => by rw [Bd.returns] at h; cases h)
  refine ⟨_, _, pre0 _ ?_, hrun, hended, _, _, rfl, ?_, ⟨_, rfl⟩, hW, hsame.mono (by decide) (by decide)⟩
  · show Steps p.tables e below (s₁.setTop (mkF m 0 #[.val (.ref a1)] [])) _
    refine XS.aloadN X0.here hx rfl (hb hby d3_0) rfl rfl ?_
    show Steps p.tables e below (s₁.setTop (mkF m 1 #[.val (.ref a1)] [(.ref a1)])) _
    refine st3 _ ?_
    show Steps p.tables e below (T3.setTop (mkF m 4 #[.val (.ref a1)] [(.int w2)])) _
    refine own_bif X3.here hx rfl (pc0 := 4) rfl (hb hby d3_4) (hb hby d3_7) (hb hby d3_8) (hb hby d3_11) rfl ?_
    show Steps p.tables e below (T3.setTop (mkF m 12 #[.val (.ref a1)] [(.int (own_sel (if_icmp.holds .ne w2 (0 : Int32)) (0 : Int32) (1 : Int32)))])) _
    exact own_retN X3 hx (t := .boolean) Bd.returns (by simp) (hb hby d3_12) (own_nar_sel _) hr
  · show Q3 Z a1 w2 h0 n0 _ T3.heap _
    rw [e3]
    exact ⟨rfl, N0, rfl⟩

def Q4 (Z : State) (p1 : Int32) (h0 : Heap) (n0 : Nat) (v : Option Value) (h : Heap) (L : List Loc) : Prop := v = some (.int (own_delta p1)) ∧ Fr n0 L ∧ h = h0
set_option maxRecDepth 65536 in
set_option maxHeartbeats 40000000 in
theorem rm4_f (l : Launch) (Z : State) (a0 : Array Value) (hw : ∀ d ∈ tables_1, d.before a0 Z = true) (ws : List Jvm.Cond) (p1 : Int32) (h0 : Heap) (n0 : Nat) (Z0 : n0 ≤ h0.size) (hc5 : (p1 &&& (3 : Int32)) = (0 : Int32)) :
    MetFree l (⟨"com/example/olm/olm/db/ParenthesesReadPinLaw", "delta", "(I)I"⟩ : MethodName) (head1 (Jvm.Cond.code (⟨"com/example/olm/olm/db/ParenthesesReadPinLaw", "delta", "(I)I"⟩ : MethodName) method_3_code 2 (some .int) :: ws) ({ frames := 0, cells := 0, slots := 0, locals := 0 } : Room)) (fun a U => a = #[(.int p1)] ∧ Z.Warmed39 U.vm ∧ U.heap = h0) (fun _ _ _ _ _ => True) (fun _ U o U' => ∃ v L, o = .returned v ∧ Q4 Z p1 h0 n0 v U'.heap L ∧ FrameEnd U o U' L ({ frames := 0, cells := 0, slots := 0, locals := 0 } : Room).cells ({ frames := 0, cells := 0, slots := 0, locals := 0 } : Room).slots) := by
  refine MetFree.of_bodySF (plainFor_of_name pn_4) hisR ?_
  intro p e s m args below meth c s₁ Bd hml0 hP hK
  obtain ⟨rfl, hZ, hh⟩ := hP
  have hx := Bd.exec
  have hby := Bd.bytes
  have hml : c.maxLocals = 2 := hml0
  have hown : s.vm.findClass "com/example/olm/olm/db/ParenthesesReadPinLaw" = some m.cls := findClass_of_methodNamed Bd.named
  have hnm := (name_of_methodNamed Bd.named Bd.method).1
  have X0 : Stand p l e ({ frames := 0, cells := 0, slots := 0, locals := 0 } : Room) s m #[(.int p1)] below meth c s₁ [] 0 0 := Stand.of_body Bd
  have e0 : s₁.heap = h0 := by rw [← hh, Bd.state]; rfl
  have N0 := Fr.nil n0
  have pre0 : ∀ t, Steps p.tables e below (s₁.setTop (mkF m 0 #[.val (.int p1), .unset] [])) t → Steps p.tables e below (s₁.setTop (entryFrame m #[(.int p1)] 2)) t := fun t k => castTop (ef_4 m p1) k

  obtain ⟨fs, hr, hrun, hended, hW, hsame⟩ := X0.leave (v := some (.int (1 : Int32))) (fun h => by rw [Bd.returns] at h; cases h)
  refine ⟨_, _, pre0 _ ?_, hrun, hended, _, _, rfl, ?_, ⟨_, rfl⟩, hW, hsame.mono (by decide) (by decide)⟩
  · show Steps p.tables e below (s₁.setTop (mkF m 0 #[.val (.int p1), .unset] [])) _
    refine XS.iloadN X0.here hx rfl (hb hby d4_0) rfl ?_
    show Steps p.tables e below (s₁.setTop (mkF m 1 #[.val (.int p1), .unset] [(.int p1)])) _
    refine XS.iconst X0.here hx rfl (hb hby d4_1) ?_
    show Steps p.tables e below (s₁.setTop (mkF m 2 #[.val (.int p1), .unset] [(.int (3 : Int32)), (.int p1)])) _
    refine XS.iand X0.here hx rfl (hb hby d4_2) rfl ?_
    show Steps p.tables e below (s₁.setTop (mkF m 3 #[.val (.int p1), .unset] [(.int (p1 &&& (3 : Int32)))])) _
    refine XS.istoreN X0.here hx rfl (hb hby d4_3) rfl (l' := #[.val (.int p1), .val (.int (p1 &&& (3 : Int32)))]) rfl ?_
    show Steps p.tables e below (s₁.setTop (mkF m 4 #[.val (.int p1), .val (.int (p1 &&& (3 : Int32)))] [])) _
    refine XS.iloadN X0.here hx rfl (hb hby d4_4) rfl ?_
    show Steps p.tables e below (s₁.setTop (mkF m 5 #[.val (.int p1), .val (.int (p1 &&& (3 : Int32)))] [(.int (p1 &&& (3 : Int32)))])) _
    refine XS.ifNo X0.here hx rfl (hb hby d4_5) rfl ((if0 _ _).trans (teq hc5).2) ?_
    show Steps p.tables e below (s₁.setTop (mkF m 8 #[.val (.int p1), .val (.int (p1 &&& (3 : Int32)))] [])) _
    refine XS.iconst X0.here hx rfl (hb hby d4_8) ?_
    show Steps p.tables e below (s₁.setTop (mkF m 9 #[.val (.int p1), .val (.int (p1 &&& (3 : Int32)))] [(.int (1 : Int32))])) _
    exact retI X0 hx Bd.returns (hb hby d4_9) hr      -- retI stands in the head ('lawwalk <made dir>' prints it)
  · show Q4 Z p1 h0 n0 _ s₁.heap _
    rw [e0]
    exact ⟨(congrArg (fun z => some (Value.int z)) ((by unfold own_delta; rw [if_pos hc5]))), N0, rfl⟩

set_option maxRecDepth 65536 in
set_option maxHeartbeats 40000000 in
theorem rm4_tf (l : Launch) (Z : State) (a0 : Array Value) (hw : ∀ d ∈ tables_1, d.before a0 Z = true) (ws : List Jvm.Cond) (p1 : Int32) (h0 : Heap) (n0 : Nat) (Z0 : n0 ≤ h0.size) (hc5 : ¬ ((p1 &&& (3 : Int32)) = (0 : Int32))) (hc12 : (p1 &&& (3 : Int32)) = (1 : Int32)) :
    MetFree l (⟨"com/example/olm/olm/db/ParenthesesReadPinLaw", "delta", "(I)I"⟩ : MethodName) (head1 (Jvm.Cond.code (⟨"com/example/olm/olm/db/ParenthesesReadPinLaw", "delta", "(I)I"⟩ : MethodName) method_3_code 2 (some .int) :: ws) ({ frames := 0, cells := 0, slots := 0, locals := 0 } : Room)) (fun a U => a = #[(.int p1)] ∧ Z.Warmed39 U.vm ∧ U.heap = h0) (fun _ _ _ _ _ => True) (fun _ U o U' => ∃ v L, o = .returned v ∧ Q4 Z p1 h0 n0 v U'.heap L ∧ FrameEnd U o U' L ({ frames := 0, cells := 0, slots := 0, locals := 0 } : Room).cells ({ frames := 0, cells := 0, slots := 0, locals := 0 } : Room).slots) := by
  refine MetFree.of_bodySF (plainFor_of_name pn_4) hisR ?_
  intro p e s m args below meth c s₁ Bd hml0 hP hK
  obtain ⟨rfl, hZ, hh⟩ := hP
  have hx := Bd.exec
  have hby := Bd.bytes
  have hml : c.maxLocals = 2 := hml0
  have hown : s.vm.findClass "com/example/olm/olm/db/ParenthesesReadPinLaw" = some m.cls := findClass_of_methodNamed Bd.named
  have hnm := (name_of_methodNamed Bd.named Bd.method).1
  have X0 : Stand p l e ({ frames := 0, cells := 0, slots := 0, locals := 0 } : Room) s m #[(.int p1)] below meth c s₁ [] 0 0 := Stand.of_body Bd
  have e0 : s₁.heap = h0 := by rw [← hh, Bd.state]; rfl
  have N0 := Fr.nil n0
  have pre0 : ∀ t, Steps p.tables e below (s₁.setTop (mkF m 0 #[.val (.int p1), .unset] [])) t → Steps p.tables e below (s₁.setTop (entryFrame m #[(.int p1)] 2)) t := fun t k => castTop (ef_4 m p1) k

  obtain ⟨fs, hr, hrun, hended, hW, hsame⟩ := X0.leave (v := some (.int (-1 : Int32))) (fun h => by rw [Bd.returns] at h; cases h)
  refine ⟨_, _, pre0 _ ?_, hrun, hended, _, _, rfl, ?_, ⟨_, rfl⟩, hW, hsame.mono (by decide) (by decide)⟩
  · show Steps p.tables e below (s₁.setTop (mkF m 0 #[.val (.int p1), .unset] [])) _
    refine XS.iloadN X0.here hx rfl (hb hby d4_0) rfl ?_
    show Steps p.tables e below (s₁.setTop (mkF m 1 #[.val (.int p1), .unset] [(.int p1)])) _
    refine XS.iconst X0.here hx rfl (hb hby d4_1) ?_
    show Steps p.tables e below (s₁.setTop (mkF m 2 #[.val (.int p1), .unset] [(.int (3 : Int32)), (.int p1)])) _
    refine XS.iand X0.here hx rfl (hb hby d4_2) rfl ?_
    show Steps p.tables e below (s₁.setTop (mkF m 3 #[.val (.int p1), .unset] [(.int (p1 &&& (3 : Int32)))])) _
    refine XS.istoreN X0.here hx rfl (hb hby d4_3) rfl (l' := #[.val (.int p1), .val (.int (p1 &&& (3 : Int32)))]) rfl ?_
    show Steps p.tables e below (s₁.setTop (mkF m 4 #[.val (.int p1), .val (.int (p1 &&& (3 : Int32)))] [])) _
    refine XS.iloadN X0.here hx rfl (hb hby d4_4) rfl ?_
    show Steps p.tables e below (s₁.setTop (mkF m 5 #[.val (.int p1), .val (.int (p1 &&& (3 : Int32)))] [(.int (p1 &&& (3 : Int32)))])) _
    refine XS.ifYes X0.here hx rfl (pc0 := 5) (pc' := 10) rfl (hb hby d4_5) rfl ((if0 _ _).trans (feq hc5).2) (by decide) (by decide) ?_
    show Steps p.tables e below (s₁.setTop (mkF m 10 #[.val (.int p1), .val (.int (p1 &&& (3 : Int32)))] [])) _
    refine XS.iloadN X0.here hx rfl (hb hby d4_10) rfl ?_
    show Steps p.tables e below (s₁.setTop (mkF m 11 #[.val (.int p1), .val (.int (p1 &&& (3 : Int32)))] [(.int (p1 &&& (3 : Int32)))])) _
    refine XS.iconst X0.here hx rfl (hb hby d4_11) ?_
    show Steps p.tables e below (s₁.setTop (mkF m 12 #[.val (.int p1), .val (.int (p1 &&& (3 : Int32)))] [(.int (1 : Int32)), (.int (p1 &&& (3 : Int32)))])) _
    refine XS.icmpNo X0.here hx rfl (hb hby d4_12) rfl (teq hc12).2 ?_
    show Steps p.tables e below (s₁.setTop (mkF m 15 #[.val (.int p1), .val (.int (p1 &&& (3 : Int32)))] [])) _
    refine XS.iconst X0.here hx rfl (hb hby d4_15) ?_
    show Steps p.tables e below (s₁.setTop (mkF m 16 #[.val (.int p1), .val (.int (p1 &&& (3 : Int32)))] [(.int (-1 : Int32))])) _
    exact retI X0 hx Bd.returns (hb hby d4_16) hr      -- retI stands in the head ('lawwalk <made dir>' prints it)
  · show Q4 Z p1 h0 n0 _ s₁.heap _
    rw [e0]
    exact ⟨(congrArg (fun z => some (Value.int z)) ((by unfold own_delta; rw [if_neg hc5, if_pos hc12]))), N0, rfl⟩

set_option maxRecDepth 65536 in
set_option maxHeartbeats 40000000 in
theorem rm4_tt (l : Launch) (Z : State) (a0 : Array Value) (hw : ∀ d ∈ tables_1, d.before a0 Z = true) (ws : List Jvm.Cond) (p1 : Int32) (h0 : Heap) (n0 : Nat) (Z0 : n0 ≤ h0.size) (hc5 : ¬ ((p1 &&& (3 : Int32)) = (0 : Int32))) (hc12 : ¬ ((p1 &&& (3 : Int32)) = (1 : Int32))) :
    MetFree l (⟨"com/example/olm/olm/db/ParenthesesReadPinLaw", "delta", "(I)I"⟩ : MethodName) (head1 (Jvm.Cond.code (⟨"com/example/olm/olm/db/ParenthesesReadPinLaw", "delta", "(I)I"⟩ : MethodName) method_3_code 2 (some .int) :: ws) ({ frames := 0, cells := 0, slots := 0, locals := 0 } : Room)) (fun a U => a = #[(.int p1)] ∧ Z.Warmed39 U.vm ∧ U.heap = h0) (fun _ _ _ _ _ => True) (fun _ U o U' => ∃ v L, o = .returned v ∧ Q4 Z p1 h0 n0 v U'.heap L ∧ FrameEnd U o U' L ({ frames := 0, cells := 0, slots := 0, locals := 0 } : Room).cells ({ frames := 0, cells := 0, slots := 0, locals := 0 } : Room).slots) := by
  refine MetFree.of_bodySF (plainFor_of_name pn_4) hisR ?_
  intro p e s m args below meth c s₁ Bd hml0 hP hK
  obtain ⟨rfl, hZ, hh⟩ := hP
  have hx := Bd.exec
  have hby := Bd.bytes
  have hml : c.maxLocals = 2 := hml0
  have hown : s.vm.findClass "com/example/olm/olm/db/ParenthesesReadPinLaw" = some m.cls := findClass_of_methodNamed Bd.named
  have hnm := (name_of_methodNamed Bd.named Bd.method).1
  have X0 : Stand p l e ({ frames := 0, cells := 0, slots := 0, locals := 0 } : Room) s m #[(.int p1)] below meth c s₁ [] 0 0 := Stand.of_body Bd
  have e0 : s₁.heap = h0 := by rw [← hh, Bd.state]; rfl
  have N0 := Fr.nil n0
  have pre0 : ∀ t, Steps p.tables e below (s₁.setTop (mkF m 0 #[.val (.int p1), .unset] [])) t → Steps p.tables e below (s₁.setTop (entryFrame m #[(.int p1)] 2)) t := fun t k => castTop (ef_4 m p1) k

  obtain ⟨fs, hr, hrun, hended, hW, hsame⟩ := X0.leave (v := some (.int (0 : Int32))) (fun h => by rw [Bd.returns] at h; cases h)
  refine ⟨_, _, pre0 _ ?_, hrun, hended, _, _, rfl, ?_, ⟨_, rfl⟩, hW, hsame.mono (by decide) (by decide)⟩
  · show Steps p.tables e below (s₁.setTop (mkF m 0 #[.val (.int p1), .unset] [])) _
    refine XS.iloadN X0.here hx rfl (hb hby d4_0) rfl ?_
    show Steps p.tables e below (s₁.setTop (mkF m 1 #[.val (.int p1), .unset] [(.int p1)])) _
    refine XS.iconst X0.here hx rfl (hb hby d4_1) ?_
    show Steps p.tables e below (s₁.setTop (mkF m 2 #[.val (.int p1), .unset] [(.int (3 : Int32)), (.int p1)])) _
    refine XS.iand X0.here hx rfl (hb hby d4_2) rfl ?_
    show Steps p.tables e below (s₁.setTop (mkF m 3 #[.val (.int p1), .unset] [(.int (p1 &&& (3 : Int32)))])) _
    refine XS.istoreN X0.here hx rfl (hb hby d4_3) rfl (l' := #[.val (.int p1), .val (.int (p1 &&& (3 : Int32)))]) rfl ?_
    show Steps p.tables e below (s₁.setTop (mkF m 4 #[.val (.int p1), .val (.int (p1 &&& (3 : Int32)))] [])) _
    refine XS.iloadN X0.here hx rfl (hb hby d4_4) rfl ?_
    show Steps p.tables e below (s₁.setTop (mkF m 5 #[.val (.int p1), .val (.int (p1 &&& (3 : Int32)))] [(.int (p1 &&& (3 : Int32)))])) _
    refine XS.ifYes X0.here hx rfl (pc0 := 5) (pc' := 10) rfl (hb hby d4_5) rfl ((if0 _ _).trans (feq hc5).2) (by decide) (by decide) ?_
    show Steps p.tables e below (s₁.setTop (mkF m 10 #[.val (.int p1), .val (.int (p1 &&& (3 : Int32)))] [])) _
    refine XS.iloadN X0.here hx rfl (hb hby d4_10) rfl ?_
    show Steps p.tables e below (s₁.setTop (mkF m 11 #[.val (.int p1), .val (.int (p1 &&& (3 : Int32)))] [(.int (p1 &&& (3 : Int32)))])) _
    refine XS.iconst X0.here hx rfl (hb hby d4_11) ?_
    show Steps p.tables e below (s₁.setTop (mkF m 12 #[.val (.int p1), .val (.int (p1 &&& (3 : Int32)))] [(.int (1 : Int32)), (.int (p1 &&& (3 : Int32)))])) _
    refine XS.icmpYes X0.here hx rfl (pc0 := 12) (pc' := 17) rfl (hb hby d4_12) rfl (feq hc12).2 (by decide) (by decide) ?_
    show Steps p.tables e below (s₁.setTop (mkF m 17 #[.val (.int p1), .val (.int (p1 &&& (3 : Int32)))] [])) _
    refine XS.iconst X0.here hx rfl (hb hby d4_17) ?_
    show Steps p.tables e below (s₁.setTop (mkF m 18 #[.val (.int p1), .val (.int (p1 &&& (3 : Int32)))] [(.int (0 : Int32))])) _
    exact retI X0 hx Bd.returns (hb hby d4_18) hr      -- retI stands in the head ('lawwalk <made dir>' prints it)
  · show Q4 Z p1 h0 n0 _ s₁.heap _
    rw [e0]
    exact ⟨(congrArg (fun z => some (Value.int z)) ((by unfold own_delta; rw [if_neg hc5, if_neg hc12]))), N0, rfl⟩

theorem rm4 (l : Launch) (Z : State) (a0 : Array Value) (hw : ∀ d ∈ tables_1, d.before a0 Z = true) (ws : List Jvm.Cond) (p1 : Int32) (h0 : Heap) (n0 : Nat) (Z0 : n0 ≤ h0.size) :
    MetFree l (⟨"com/example/olm/olm/db/ParenthesesReadPinLaw", "delta", "(I)I"⟩ : MethodName) (head1 (Jvm.Cond.code (⟨"com/example/olm/olm/db/ParenthesesReadPinLaw", "delta", "(I)I"⟩ : MethodName) method_3_code 2 (some .int) :: ws) ({ frames := 0, cells := 0, slots := 0, locals := 0 } : Room)) (fun a U => a = #[(.int p1)] ∧ Z.Warmed39 U.vm ∧ U.heap = h0) (fun _ _ _ _ _ => True) (fun _ U o U' => ∃ v L, o = .returned v ∧ Q4 Z p1 h0 n0 v U'.heap L ∧ FrameEnd U o U' L ({ frames := 0, cells := 0, slots := 0, locals := 0 } : Room).cells ({ frames := 0, cells := 0, slots := 0, locals := 0 } : Room).slots) := by
  by_cases h5 : (p1 &&& (3 : Int32)) = (0 : Int32)
  · exact rm4_f l Z a0 hw ws p1 h0 n0 Z0 h5
  · by_cases h12 : (p1 &&& (3 : Int32)) = (1 : Int32)
    · exact rm4_tf l Z a0 hw ws p1 h0 n0 Z0 h5 h12
    · exact rm4_tt l Z a0 hw ws p1 h0 n0 Z0 h5 h12
def Q5 (Z : State) (p1 : Int32) (h0 : Heap) (n0 : Nat) (v : Option Value) (h : Heap) (L : List Loc) : Prop := v = some (.int (own_draw p1)) ∧ Fr n0 L ∧ h = h0
set_option maxRecDepth 65536 in
set_option maxHeartbeats 40000000 in
theorem rm5_f (l : Launch) (Z : State) (a0 : Array Value) (hw : ∀ d ∈ tables_1, d.before a0 Z = true) (ws : List Jvm.Cond) (p1 : Int32) (h0 : Heap) (n0 : Nat) (Z0 : n0 ≤ h0.size) (hc5 : (p1 &&& (3 : Int32)) = (0 : Int32)) :
    MetFree l (⟨"com/example/olm/olm/db/ParenthesesReadPinLaw", "draw", "(I)C"⟩ : MethodName) (head1 (Jvm.Cond.code (⟨"com/example/olm/olm/db/ParenthesesReadPinLaw", "draw", "(I)C"⟩ : MethodName) method_2_code 3 (some .char) :: ws) ({ frames := 0, cells := 0, slots := 0, locals := 0 } : Room)) (fun a U => a = #[(.int p1)] ∧ Z.Warmed39 U.vm ∧ U.heap = h0) (fun _ _ _ _ _ => True) (fun _ U o U' => ∃ v L, o = .returned v ∧ Q5 Z p1 h0 n0 v U'.heap L ∧ FrameEnd U o U' L ({ frames := 0, cells := 0, slots := 0, locals := 0 } : Room).cells ({ frames := 0, cells := 0, slots := 0, locals := 0 } : Room).slots) := by
  refine MetFree.of_bodySF (plainFor_of_name pn_5) hisR ?_
  intro p e s m args below meth c s₁ Bd hml0 hP hK
  obtain ⟨rfl, hZ, hh⟩ := hP
  have hx := Bd.exec
  have hby := Bd.bytes
  have hml : c.maxLocals = 3 := hml0
  have hown : s.vm.findClass "com/example/olm/olm/db/ParenthesesReadPinLaw" = some m.cls := findClass_of_methodNamed Bd.named
  have hnm := (name_of_methodNamed Bd.named Bd.method).1
  have X0 : Stand p l e ({ frames := 0, cells := 0, slots := 0, locals := 0 } : Room) s m #[(.int p1)] below meth c s₁ [] 0 0 := Stand.of_body Bd
  have e0 : s₁.heap = h0 := by rw [← hh, Bd.state]; rfl
  have N0 := Fr.nil n0
  have pre0 : ∀ t, Steps p.tables e below (s₁.setTop (mkF m 0 #[.val (.int p1), .unset, .unset] [])) t → Steps p.tables e below (s₁.setTop (entryFrame m #[(.int p1)] 3)) t := fun t k => castTop (ef_5 m p1) k

  obtain ⟨fs, hr, hrun, hended, hW, hsame⟩ := X0.leave (v := some (.int (40 : Int32))) (fun h => by rw [Bd.returns] at h; cases h)
  refine ⟨_, _, pre0 _ ?_, hrun, hended, _, _, rfl, ?_, ⟨_, rfl⟩, hW, hsame.mono (by decide) (by decide)⟩
  · show Steps p.tables e below (s₁.setTop (mkF m 0 #[.val (.int p1), .unset, .unset] [])) _
    refine XS.iloadN X0.here hx rfl (hb hby d5_0) rfl ?_
    show Steps p.tables e below (s₁.setTop (mkF m 1 #[.val (.int p1), .unset, .unset] [(.int p1)])) _
    refine XS.iconst X0.here hx rfl (hb hby d5_1) ?_
    show Steps p.tables e below (s₁.setTop (mkF m 2 #[.val (.int p1), .unset, .unset] [(.int (3 : Int32)), (.int p1)])) _
    refine XS.iand X0.here hx rfl (hb hby d5_2) rfl ?_
    show Steps p.tables e below (s₁.setTop (mkF m 3 #[.val (.int p1), .unset, .unset] [(.int (p1 &&& (3 : Int32)))])) _
    refine XS.istoreN X0.here hx rfl (hb hby d5_3) rfl (l' := #[.val (.int p1), .val (.int (p1 &&& (3 : Int32))), .unset]) rfl ?_
    show Steps p.tables e below (s₁.setTop (mkF m 4 #[.val (.int p1), .val (.int (p1 &&& (3 : Int32))), .unset] [])) _
    refine XS.iloadN X0.here hx rfl (hb hby d5_4) rfl ?_
    show Steps p.tables e below (s₁.setTop (mkF m 5 #[.val (.int p1), .val (.int (p1 &&& (3 : Int32))), .unset] [(.int (p1 &&& (3 : Int32)))])) _
    refine XS.ifNo X0.here hx rfl (hb hby d5_5) rfl ((if0 _ _).trans (teq hc5).2) ?_
    show Steps p.tables e below (s₁.setTop (mkF m 8 #[.val (.int p1), .val (.int (p1 &&& (3 : Int32))), .unset] [])) _
    refine XS.bipush X0.here hx rfl (hb hby d5_8) ?_
    show Steps p.tables e below (s₁.setTop (mkF m 10 #[.val (.int p1), .val (.int (p1 &&& (3 : Int32))), .unset] [(.int (40 : Int32))])) _
    exact retN X0 hx (t := .char) Bd.returns (by simp) (hb hby d5_10) hr
  · show Q5 Z p1 h0 n0 _ s₁.heap _
    rw [e0]
    exact ⟨(congrArg (fun z => some (Value.int z)) ((by unfold own_draw; rw [if_pos hc5]))), N0, rfl⟩

set_option maxRecDepth 65536 in
set_option maxHeartbeats 40000000 in
theorem rm5_tf (l : Launch) (Z : State) (a0 : Array Value) (hw : ∀ d ∈ tables_1, d.before a0 Z = true) (ws : List Jvm.Cond) (p1 : Int32) (h0 : Heap) (n0 : Nat) (Z0 : n0 ≤ h0.size) (hc5 : ¬ ((p1 &&& (3 : Int32)) = (0 : Int32))) (hc13 : (p1 &&& (3 : Int32)) = (1 : Int32)) :
    MetFree l (⟨"com/example/olm/olm/db/ParenthesesReadPinLaw", "draw", "(I)C"⟩ : MethodName) (head1 (Jvm.Cond.code (⟨"com/example/olm/olm/db/ParenthesesReadPinLaw", "draw", "(I)C"⟩ : MethodName) method_2_code 3 (some .char) :: ws) ({ frames := 0, cells := 0, slots := 0, locals := 0 } : Room)) (fun a U => a = #[(.int p1)] ∧ Z.Warmed39 U.vm ∧ U.heap = h0) (fun _ _ _ _ _ => True) (fun _ U o U' => ∃ v L, o = .returned v ∧ Q5 Z p1 h0 n0 v U'.heap L ∧ FrameEnd U o U' L ({ frames := 0, cells := 0, slots := 0, locals := 0 } : Room).cells ({ frames := 0, cells := 0, slots := 0, locals := 0 } : Room).slots) := by
  refine MetFree.of_bodySF (plainFor_of_name pn_5) hisR ?_
  intro p e s m args below meth c s₁ Bd hml0 hP hK
  obtain ⟨rfl, hZ, hh⟩ := hP
  have hx := Bd.exec
  have hby := Bd.bytes
  have hml : c.maxLocals = 3 := hml0
  have hown : s.vm.findClass "com/example/olm/olm/db/ParenthesesReadPinLaw" = some m.cls := findClass_of_methodNamed Bd.named
  have hnm := (name_of_methodNamed Bd.named Bd.method).1
  have X0 : Stand p l e ({ frames := 0, cells := 0, slots := 0, locals := 0 } : Room) s m #[(.int p1)] below meth c s₁ [] 0 0 := Stand.of_body Bd
  have e0 : s₁.heap = h0 := by rw [← hh, Bd.state]; rfl
  have N0 := Fr.nil n0
  have pre0 : ∀ t, Steps p.tables e below (s₁.setTop (mkF m 0 #[.val (.int p1), .unset, .unset] [])) t → Steps p.tables e below (s₁.setTop (entryFrame m #[(.int p1)] 3)) t := fun t k => castTop (ef_5 m p1) k

  obtain ⟨fs, hr, hrun, hended, hW, hsame⟩ := X0.leave (v := some (.int (41 : Int32))) (fun h => by rw [Bd.returns] at h; cases h)
  refine ⟨_, _, pre0 _ ?_, hrun, hended, _, _, rfl, ?_, ⟨_, rfl⟩, hW, hsame.mono (by decide) (by decide)⟩
  · show Steps p.tables e below (s₁.setTop (mkF m 0 #[.val (.int p1), .unset, .unset] [])) _
    refine XS.iloadN X0.here hx rfl (hb hby d5_0) rfl ?_
    show Steps p.tables e below (s₁.setTop (mkF m 1 #[.val (.int p1), .unset, .unset] [(.int p1)])) _
    refine XS.iconst X0.here hx rfl (hb hby d5_1) ?_
    show Steps p.tables e below (s₁.setTop (mkF m 2 #[.val (.int p1), .unset, .unset] [(.int (3 : Int32)), (.int p1)])) _
    refine XS.iand X0.here hx rfl (hb hby d5_2) rfl ?_
    show Steps p.tables e below (s₁.setTop (mkF m 3 #[.val (.int p1), .unset, .unset] [(.int (p1 &&& (3 : Int32)))])) _
    refine XS.istoreN X0.here hx rfl (hb hby d5_3) rfl (l' := #[.val (.int p1), .val (.int (p1 &&& (3 : Int32))), .unset]) rfl ?_
    show Steps p.tables e below (s₁.setTop (mkF m 4 #[.val (.int p1), .val (.int (p1 &&& (3 : Int32))), .unset] [])) _
    refine XS.iloadN X0.here hx rfl (hb hby d5_4) rfl ?_
    show Steps p.tables e below (s₁.setTop (mkF m 5 #[.val (.int p1), .val (.int (p1 &&& (3 : Int32))), .unset] [(.int (p1 &&& (3 : Int32)))])) _
    refine XS.ifYes X0.here hx rfl (pc0 := 5) (pc' := 11) rfl (hb hby d5_5) rfl ((if0 _ _).trans (feq hc5).2) (by decide) (by decide) ?_
    show Steps p.tables e below (s₁.setTop (mkF m 11 #[.val (.int p1), .val (.int (p1 &&& (3 : Int32))), .unset] [])) _
    refine XS.iloadN X0.here hx rfl (hb hby d5_11) rfl ?_
    show Steps p.tables e below (s₁.setTop (mkF m 12 #[.val (.int p1), .val (.int (p1 &&& (3 : Int32))), .unset] [(.int (p1 &&& (3 : Int32)))])) _
    refine XS.iconst X0.here hx rfl (hb hby d5_12) ?_
    show Steps p.tables e below (s₁.setTop (mkF m 13 #[.val (.int p1), .val (.int (p1 &&& (3 : Int32))), .unset] [(.int (1 : Int32)), (.int (p1 &&& (3 : Int32)))])) _
    refine XS.icmpNo X0.here hx rfl (hb hby d5_13) rfl (teq hc13).2 ?_
    show Steps p.tables e below (s₁.setTop (mkF m 16 #[.val (.int p1), .val (.int (p1 &&& (3 : Int32))), .unset] [])) _
    refine XS.bipush X0.here hx rfl (hb hby d5_16) ?_
    show Steps p.tables e below (s₁.setTop (mkF m 18 #[.val (.int p1), .val (.int (p1 &&& (3 : Int32))), .unset] [(.int (41 : Int32))])) _
    exact retN X0 hx (t := .char) Bd.returns (by simp) (hb hby d5_18) hr
  · show Q5 Z p1 h0 n0 _ s₁.heap _
    rw [e0]
    exact ⟨(congrArg (fun z => some (Value.int z)) ((by unfold own_draw; rw [if_neg hc5, if_pos hc13]))), N0, rfl⟩

set_option maxRecDepth 65536 in
set_option maxHeartbeats 40000000 in
theorem rm5_ttt (l : Launch) (Z : State) (a0 : Array Value) (hw : ∀ d ∈ tables_1, d.before a0 Z = true) (ws : List Jvm.Cond) (p1 : Int32) (h0 : Heap) (n0 : Nat) (Z0 : n0 ≤ h0.size) (hc5 : ¬ ((p1 &&& (3 : Int32)) = (0 : Int32))) (hc13 : ¬ ((p1 &&& (3 : Int32)) = (1 : Int32))) (hc27 : (((p1.toUInt32 >>> ((2 : Int32) &&& 31).toUInt32).toInt32).toUInt32.toUInt16.toUInt32.toInt32) = (40 : Int32)) :
    MetFree l (⟨"com/example/olm/olm/db/ParenthesesReadPinLaw", "draw", "(I)C"⟩ : MethodName) (head1 (Jvm.Cond.code (⟨"com/example/olm/olm/db/ParenthesesReadPinLaw", "draw", "(I)C"⟩ : MethodName) method_2_code 3 (some .char) :: ws) ({ frames := 0, cells := 0, slots := 0, locals := 0 } : Room)) (fun a U => a = #[(.int p1)] ∧ Z.Warmed39 U.vm ∧ U.heap = h0) (fun _ _ _ _ _ => True) (fun _ U o U' => ∃ v L, o = .returned v ∧ Q5 Z p1 h0 n0 v U'.heap L ∧ FrameEnd U o U' L ({ frames := 0, cells := 0, slots := 0, locals := 0 } : Room).cells ({ frames := 0, cells := 0, slots := 0, locals := 0 } : Room).slots) := by
  refine MetFree.of_bodySF (plainFor_of_name pn_5) hisR ?_
  intro p e s m args below meth c s₁ Bd hml0 hP hK
  obtain ⟨rfl, hZ, hh⟩ := hP
  have hx := Bd.exec
  have hby := Bd.bytes
  have hml : c.maxLocals = 3 := hml0
  have hown : s.vm.findClass "com/example/olm/olm/db/ParenthesesReadPinLaw" = some m.cls := findClass_of_methodNamed Bd.named
  have hnm := (name_of_methodNamed Bd.named Bd.method).1
  have X0 : Stand p l e ({ frames := 0, cells := 0, slots := 0, locals := 0 } : Room) s m #[(.int p1)] below meth c s₁ [] 0 0 := Stand.of_body Bd
  have e0 : s₁.heap = h0 := by rw [← hh, Bd.state]; rfl
  have N0 := Fr.nil n0
  have pre0 : ∀ t, Steps p.tables e below (s₁.setTop (mkF m 0 #[.val (.int p1), .unset, .unset] [])) t → Steps p.tables e below (s₁.setTop (entryFrame m #[(.int p1)] 3)) t := fun t k => castTop (ef_5 m p1) k

  obtain ⟨fs, hr, hrun, hended, hW, hsame⟩ := X0.leave (v := some (.int (((((p1.toUInt32 >>> ((2 : Int32) &&& 31).toUInt32).toInt32).toUInt32.toUInt16.toUInt32.toInt32) + (2 : Int32)).toUInt32.toUInt16.toUInt32.toInt32))) (fun h => by rw [Bd.returns] at h; cases h)
  refine ⟨_, _, pre0 _ ?_, hrun, hended, _, _, rfl, ?_, ⟨_, rfl⟩, hW, hsame.mono (by decide) (by decide)⟩
  · show Steps p.tables e below (s₁.setTop (mkF m 0 #[.val (.int p1), .unset, .unset] [])) _
    refine XS.iloadN X0.here hx rfl (hb hby d5_0) rfl ?_
    show Steps p.tables e below (s₁.setTop (mkF m 1 #[.val (.int p1), .unset, .unset] [(.int p1)])) _
    refine XS.iconst X0.here hx rfl (hb hby d5_1) ?_
    show Steps p.tables e below (s₁.setTop (mkF m 2 #[.val (.int p1), .unset, .unset] [(.int (3 : Int32)), (.int p1)])) _
    refine XS.iand X0.here hx rfl (hb hby d5_2) rfl ?_
    show Steps p.tables e below (s₁.setTop (mkF m 3 #[.val (.int p1), .unset, .unset] [(.int (p1 &&& (3 : Int32)))])) _
    refine XS.istoreN X0.here hx rfl (hb hby d5_3) rfl (l' := #[.val (.int p1), .val (.int (p1 &&& (3 : Int32))), .unset]) rfl ?_
    show Steps p.tables e below (s₁.setTop (mkF m 4 #[.val (.int p1), .val (.int (p1 &&& (3 : Int32))), .unset] [])) _
    refine XS.iloadN X0.here hx rfl (hb hby d5_4) rfl ?_
    show Steps p.tables e below (s₁.setTop (mkF m 5 #[.val (.int p1), .val (.int (p1 &&& (3 : Int32))), .unset] [(.int (p1 &&& (3 : Int32)))])) _
    refine XS.ifYes X0.here hx rfl (pc0 := 5) (pc' := 11) rfl (hb hby d5_5) rfl ((if0 _ _).trans (feq hc5).2) (by decide) (by decide) ?_
    show Steps p.tables e below (s₁.setTop (mkF m 11 #[.val (.int p1), .val (.int (p1 &&& (3 : Int32))), .unset] [])) _
    refine XS.iloadN X0.here hx rfl (hb hby d5_11) rfl ?_
    show Steps p.tables e below (s₁.setTop (mkF m 12 #[.val (.int p1), .val (.int (p1 &&& (3 : Int32))), .unset] [(.int (p1 &&& (3 : Int32)))])) _
    refine XS.iconst X0.here hx rfl (hb hby d5_12) ?_
    show Steps p.tables e below (s₁.setTop (mkF m 13 #[.val (.int p1), .val (.int (p1 &&& (3 : Int32))), .unset] [(.int (1 : Int32)), (.int (p1 &&& (3 : Int32)))])) _
    refine XS.icmpYes X0.here hx rfl (pc0 := 13) (pc' := 19) rfl (hb hby d5_13) rfl (feq hc13).2 (by decide) (by decide) ?_
    show Steps p.tables e below (s₁.setTop (mkF m 19 #[.val (.int p1), .val (.int (p1 &&& (3 : Int32))), .unset] [])) _
    refine XS.iloadN X0.here hx rfl (hb hby d5_19) rfl ?_
    show Steps p.tables e below (s₁.setTop (mkF m 20 #[.val (.int p1), .val (.int (p1 &&& (3 : Int32))), .unset] [(.int p1)])) _
    refine XS.iconst X0.here hx rfl (hb hby d5_20) ?_
    show Steps p.tables e below (s₁.setTop (mkF m 21 #[.val (.int p1), .val (.int (p1 &&& (3 : Int32))), .unset] [(.int (2 : Int32)), (.int p1)])) _
    refine XS.iushr X0.here hx rfl (hb hby d5_21) rfl ?_
    show Steps p.tables e below (s₁.setTop (mkF m 22 #[.val (.int p1), .val (.int (p1 &&& (3 : Int32))), .unset] [(.int ((p1.toUInt32 >>> ((2 : Int32) &&& 31).toUInt32).toInt32))])) _
    refine XS.i2c X0.here hx rfl (hb hby d5_22) rfl ?_
    show Steps p.tables e below (s₁.setTop (mkF m 23 #[.val (.int p1), .val (.int (p1 &&& (3 : Int32))), .unset] [(.int (((p1.toUInt32 >>> ((2 : Int32) &&& 31).toUInt32).toInt32).toUInt32.toUInt16.toUInt32.toInt32))])) _
    refine XS.istoreN X0.here hx rfl (hb hby d5_23) rfl (l' := #[.val (.int p1), .val (.int (p1 &&& (3 : Int32))), .val (.int (((p1.toUInt32 >>> ((2 : Int32) &&& 31).toUInt32).toInt32).toUInt32.toUInt16.toUInt32.toInt32))]) rfl ?_
    show Steps p.tables e below (s₁.setTop (mkF m 24 #[.val (.int p1), .val (.int (p1 &&& (3 : Int32))), .val (.int (((p1.toUInt32 >>> ((2 : Int32) &&& 31).toUInt32).toInt32).toUInt32.toUInt16.toUInt32.toInt32))] [])) _
    refine XS.iloadN X0.here hx rfl (hb hby d5_24) rfl ?_
    show Steps p.tables e below (s₁.setTop (mkF m 25 #[.val (.int p1), .val (.int (p1 &&& (3 : Int32))), .val (.int (((p1.toUInt32 >>> ((2 : Int32) &&& 31).toUInt32).toInt32).toUInt32.toUInt16.toUInt32.toInt32))] [(.int (((p1.toUInt32 >>> ((2 : Int32) &&& 31).toUInt32).toInt32).toUInt32.toUInt16.toUInt32.toInt32))])) _
    refine XS.bipush X0.here hx rfl (hb hby d5_25) ?_
    show Steps p.tables e below (s₁.setTop (mkF m 27 #[.val (.int p1), .val (.int (p1 &&& (3 : Int32))), .val (.int (((p1.toUInt32 >>> ((2 : Int32) &&& 31).toUInt32).toInt32).toUInt32.toUInt16.toUInt32.toInt32))] [(.int (40 : Int32)), (.int (((p1.toUInt32 >>> ((2 : Int32) &&& 31).toUInt32).toInt32).toUInt32.toUInt16.toUInt32.toInt32))])) _
    refine XS.icmpYes X0.here hx rfl (pc0 := 27) (pc' := 36) rfl (hb hby d5_27) rfl (teq hc27).1 (by decide) (by decide) ?_
    show Steps p.tables e below (s₁.setTop (mkF m 36 #[.val (.int p1), .val (.int (p1 &&& (3 : Int32))), .val (.int (((p1.toUInt32 >>> ((2 : Int32) &&& 31).toUInt32).toInt32).toUInt32.toUInt16.toUInt32.toInt32))] [])) _
    refine XS.iloadN X0.here hx rfl (hb hby d5_36) rfl ?_
    show Steps p.tables e below (s₁.setTop (mkF m 37 #[.val (.int p1), .val (.int (p1 &&& (3 : Int32))), .val (.int (((p1.toUInt32 >>> ((2 : Int32) &&& 31).toUInt32).toInt32).toUInt32.toUInt16.toUInt32.toInt32))] [(.int (((p1.toUInt32 >>> ((2 : Int32) &&& 31).toUInt32).toInt32).toUInt32.toUInt16.toUInt32.toInt32))])) _
    refine XS.iconst X0.here hx rfl (hb hby d5_37) ?_
    show Steps p.tables e below (s₁.setTop (mkF m 38 #[.val (.int p1), .val (.int (p1 &&& (3 : Int32))), .val (.int (((p1.toUInt32 >>> ((2 : Int32) &&& 31).toUInt32).toInt32).toUInt32.toUInt16.toUInt32.toInt32))] [(.int (2 : Int32)), (.int (((p1.toUInt32 >>> ((2 : Int32) &&& 31).toUInt32).toInt32).toUInt32.toUInt16.toUInt32.toInt32))])) _
    refine XS.iadd X0.here hx rfl (hb hby d5_38) rfl ?_
    show Steps p.tables e below (s₁.setTop (mkF m 39 #[.val (.int p1), .val (.int (p1 &&& (3 : Int32))), .val (.int (((p1.toUInt32 >>> ((2 : Int32) &&& 31).toUInt32).toInt32).toUInt32.toUInt16.toUInt32.toInt32))] [(.int ((((p1.toUInt32 >>> ((2 : Int32) &&& 31).toUInt32).toInt32).toUInt32.toUInt16.toUInt32.toInt32) + (2 : Int32)))])) _
    refine XS.i2c X0.here hx rfl (hb hby d5_39) rfl ?_
    show Steps p.tables e below (s₁.setTop (mkF m 40 #[.val (.int p1), .val (.int (p1 &&& (3 : Int32))), .val (.int (((p1.toUInt32 >>> ((2 : Int32) &&& 31).toUInt32).toInt32).toUInt32.toUInt16.toUInt32.toInt32))] [(.int (((((p1.toUInt32 >>> ((2 : Int32) &&& 31).toUInt32).toInt32).toUInt32.toUInt16.toUInt32.toInt32) + (2 : Int32)).toUInt32.toUInt16.toUInt32.toInt32))])) _
    refine XS.istoreN X0.here hx rfl (hb hby d5_40) rfl (l' := #[.val (.int p1), .val (.int (p1 &&& (3 : Int32))), .val (.int (((((p1.toUInt32 >>> ((2 : Int32) &&& 31).toUInt32).toInt32).toUInt32.toUInt16.toUInt32.toInt32) + (2 : Int32)).toUInt32.toUInt16.toUInt32.toInt32))]) rfl ?_
    show Steps p.tables e below (s₁.setTop (mkF m 41 #[.val (.int p1), .val (.int (p1 &&& (3 : Int32))), .val (.int (((((p1.toUInt32 >>> ((2 : Int32) &&& 31).toUInt32).toInt32).toUInt32.toUInt16.toUInt32.toInt32) + (2 : Int32)).toUInt32.toUInt16.toUInt32.toInt32))] [])) _
    refine XS.iloadN X0.here hx rfl (hb hby d5_41) rfl ?_
    show Steps p.tables e below (s₁.setTop (mkF m 42 #[.val (.int p1), .val (.int (p1 &&& (3 : Int32))), .val (.int (((((p1.toUInt32 >>> ((2 : Int32) &&& 31).toUInt32).toInt32).toUInt32.toUInt16.toUInt32.toInt32) + (2 : Int32)).toUInt32.toUInt16.toUInt32.toInt32))] [(.int (((((p1.toUInt32 >>> ((2 : Int32) &&& 31).toUInt32).toInt32).toUInt32.toUInt16.toUInt32.toInt32) + (2 : Int32)).toUInt32.toUInt16.toUInt32.toInt32))])) _
    exact own_retN X0 hx (t := .char) Bd.returns (by simp) (hb hby d5_42) (own_nar_char _) hr
  · show Q5 Z p1 h0 n0 _ s₁.heap _
    rw [e0]
    exact ⟨(congrArg (fun z => some (Value.int z)) ((by unfold own_draw; rw [if_neg hc5, if_neg hc13, if_pos (show own_ch p1 = 40 from hc27)]; rfl))), N0, rfl⟩

set_option maxRecDepth 65536 in
set_option maxHeartbeats 40000000 in
theorem rm5_ttft (l : Launch) (Z : State) (a0 : Array Value) (hw : ∀ d ∈ tables_1, d.before a0 Z = true) (ws : List Jvm.Cond) (p1 : Int32) (h0 : Heap) (n0 : Nat) (Z0 : n0 ≤ h0.size) (hc5 : ¬ ((p1 &&& (3 : Int32)) = (0 : Int32))) (hc13 : ¬ ((p1 &&& (3 : Int32)) = (1 : Int32))) (hc27 : ¬ ((((p1.toUInt32 >>> ((2 : Int32) &&& 31).toUInt32).toInt32).toUInt32.toUInt16.toUInt32.toInt32) = (40 : Int32))) (hc33 : ¬ ((((p1.toUInt32 >>> ((2 : Int32) &&& 31).toUInt32).toInt32).toUInt32.toUInt16.toUInt32.toInt32) = (41 : Int32))) :
    MetFree l (⟨"com/example/olm/olm/db/ParenthesesReadPinLaw", "draw", "(I)C"⟩ : MethodName) (head1 (Jvm.Cond.code (⟨"com/example/olm/olm/db/ParenthesesReadPinLaw", "draw", "(I)C"⟩ : MethodName) method_2_code 3 (some .char) :: ws) ({ frames := 0, cells := 0, slots := 0, locals := 0 } : Room)) (fun a U => a = #[(.int p1)] ∧ Z.Warmed39 U.vm ∧ U.heap = h0) (fun _ _ _ _ _ => True) (fun _ U o U' => ∃ v L, o = .returned v ∧ Q5 Z p1 h0 n0 v U'.heap L ∧ FrameEnd U o U' L ({ frames := 0, cells := 0, slots := 0, locals := 0 } : Room).cells ({ frames := 0, cells := 0, slots := 0, locals := 0 } : Room).slots) := by
  refine MetFree.of_bodySF (plainFor_of_name pn_5) hisR ?_
  intro p e s m args below meth c s₁ Bd hml0 hP hK
  obtain ⟨rfl, hZ, hh⟩ := hP
  have hx := Bd.exec
  have hby := Bd.bytes
  have hml : c.maxLocals = 3 := hml0
  have hown : s.vm.findClass "com/example/olm/olm/db/ParenthesesReadPinLaw" = some m.cls := findClass_of_methodNamed Bd.named
  have hnm := (name_of_methodNamed Bd.named Bd.method).1
  have X0 : Stand p l e ({ frames := 0, cells := 0, slots := 0, locals := 0 } : Room) s m #[(.int p1)] below meth c s₁ [] 0 0 := Stand.of_body Bd
  have e0 : s₁.heap = h0 := by rw [← hh, Bd.state]; rfl
  have N0 := Fr.nil n0
  have pre0 : ∀ t, Steps p.tables e below (s₁.setTop (mkF m 0 #[.val (.int p1), .unset, .unset] [])) t → Steps p.tables e below (s₁.setTop (entryFrame m #[(.int p1)] 3)) t := fun t k => castTop (ef_5 m p1) k

  obtain ⟨fs, hr, hrun, hended, hW, hsame⟩ := X0.leave (v := some (.int (((p1.toUInt32 >>> ((2 : Int32) &&& 31).toUInt32).toInt32).toUInt32.toUInt16.toUInt32.toInt32))) (fun h => by rw [Bd.returns] at h; cases h)
  refine ⟨_, _, pre0 _ ?_, hrun, hended, _, _, rfl, ?_, ⟨_, rfl⟩, hW, hsame.mono (by decide) (by decide)⟩
  · show Steps p.tables e below (s₁.setTop (mkF m 0 #[.val (.int p1), .unset, .unset] [])) _
    refine XS.iloadN X0.here hx rfl (hb hby d5_0) rfl ?_
    show Steps p.tables e below (s₁.setTop (mkF m 1 #[.val (.int p1), .unset, .unset] [(.int p1)])) _
    refine XS.iconst X0.here hx rfl (hb hby d5_1) ?_
    show Steps p.tables e below (s₁.setTop (mkF m 2 #[.val (.int p1), .unset, .unset] [(.int (3 : Int32)), (.int p1)])) _
    refine XS.iand X0.here hx rfl (hb hby d5_2) rfl ?_
    show Steps p.tables e below (s₁.setTop (mkF m 3 #[.val (.int p1), .unset, .unset] [(.int (p1 &&& (3 : Int32)))])) _
    refine XS.istoreN X0.here hx rfl (hb hby d5_3) rfl (l' := #[.val (.int p1), .val (.int (p1 &&& (3 : Int32))), .unset]) rfl ?_
    show Steps p.tables e below (s₁.setTop (mkF m 4 #[.val (.int p1), .val (.int (p1 &&& (3 : Int32))), .unset] [])) _
    refine XS.iloadN X0.here hx rfl (hb hby d5_4) rfl ?_
    show Steps p.tables e below (s₁.setTop (mkF m 5 #[.val (.int p1), .val (.int (p1 &&& (3 : Int32))), .unset] [(.int (p1 &&& (3 : Int32)))])) _
    refine XS.ifYes X0.here hx rfl (pc0 := 5) (pc' := 11) rfl (hb hby d5_5) rfl ((if0 _ _).trans (feq hc5).2) (by decide) (by decide) ?_
    show Steps p.tables e below (s₁.setTop (mkF m 11 #[.val (.int p1), .val (.int (p1 &&& (3 : Int32))), .unset] [])) _
    refine XS.iloadN X0.here hx rfl (hb hby d5_11) rfl ?_
    show Steps p.tables e below (s₁.setTop (mkF m 12 #[.val (.int p1), .val (.int (p1 &&& (3 : Int32))), .unset] [(.int (p1 &&& (3 : Int32)))])) _
    refine XS.iconst X0.here hx rfl (hb hby d5_12) ?_
    show Steps p.tables e below (s₁.setTop (mkF m 13 #[.val (.int p1), .val (.int (p1 &&& (3 : Int32))), .unset] [(.int (1 : Int32)), (.int (p1 &&& (3 : Int32)))])) _
    refine XS.icmpYes X0.here hx rfl (pc0 := 13) (pc' := 19) rfl (hb hby d5_13) rfl (feq hc13).2 (by decide) (by decide) ?_
    show Steps p.tables e below (s₁.setTop (mkF m 19 #[.val (.int p1), .val (.int (p1 &&& (3 : Int32))), .unset] [])) _
    refine XS.iloadN X0.here hx rfl (hb hby d5_19) rfl ?_
    show Steps p.tables e below (s₁.setTop (mkF m 20 #[.val (.int p1), .val (.int (p1 &&& (3 : Int32))), .unset] [(.int p1)])) _
    refine XS.iconst X0.here hx rfl (hb hby d5_20) ?_
    show Steps p.tables e below (s₁.setTop (mkF m 21 #[.val (.int p1), .val (.int (p1 &&& (3 : Int32))), .unset] [(.int (2 : Int32)), (.int p1)])) _
    refine XS.iushr X0.here hx rfl (hb hby d5_21) rfl ?_
    show Steps p.tables e below (s₁.setTop (mkF m 22 #[.val (.int p1), .val (.int (p1 &&& (3 : Int32))), .unset] [(.int ((p1.toUInt32 >>> ((2 : Int32) &&& 31).toUInt32).toInt32))])) _
    refine XS.i2c X0.here hx rfl (hb hby d5_22) rfl ?_
    show Steps p.tables e below (s₁.setTop (mkF m 23 #[.val (.int p1), .val (.int (p1 &&& (3 : Int32))), .unset] [(.int (((p1.toUInt32 >>> ((2 : Int32) &&& 31).toUInt32).toInt32).toUInt32.toUInt16.toUInt32.toInt32))])) _
    refine XS.istoreN X0.here hx rfl (hb hby d5_23) rfl (l' := #[.val (.int p1), .val (.int (p1 &&& (3 : Int32))), .val (.int (((p1.toUInt32 >>> ((2 : Int32) &&& 31).toUInt32).toInt32).toUInt32.toUInt16.toUInt32.toInt32))]) rfl ?_
    show Steps p.tables e below (s₁.setTop (mkF m 24 #[.val (.int p1), .val (.int (p1 &&& (3 : Int32))), .val (.int (((p1.toUInt32 >>> ((2 : Int32) &&& 31).toUInt32).toInt32).toUInt32.toUInt16.toUInt32.toInt32))] [])) _
    refine XS.iloadN X0.here hx rfl (hb hby d5_24) rfl ?_
    show Steps p.tables e below (s₁.setTop (mkF m 25 #[.val (.int p1), .val (.int (p1 &&& (3 : Int32))), .val (.int (((p1.toUInt32 >>> ((2 : Int32) &&& 31).toUInt32).toInt32).toUInt32.toUInt16.toUInt32.toInt32))] [(.int (((p1.toUInt32 >>> ((2 : Int32) &&& 31).toUInt32).toInt32).toUInt32.toUInt16.toUInt32.toInt32))])) _
    refine XS.bipush X0.here hx rfl (hb hby d5_25) ?_
    show Steps p.tables e below (s₁.setTop (mkF m 27 #[.val (.int p1), .val (.int (p1 &&& (3 : Int32))), .val (.int (((p1.toUInt32 >>> ((2 : Int32) &&& 31).toUInt32).toInt32).toUInt32.toUInt16.toUInt32.toInt32))] [(.int (40 : Int32)), (.int (((p1.toUInt32 >>> ((2 : Int32) &&& 31).toUInt32).toInt32).toUInt32.toUInt16.toUInt32.toInt32))])) _
    refine XS.icmpNo X0.here hx rfl (hb hby d5_27) rfl (feq hc27).1 ?_
    show Steps p.tables e below (s₁.setTop (mkF m 30 #[.val (.int p1), .val (.int (p1 &&& (3 : Int32))), .val (.int (((p1.toUInt32 >>> ((2 : Int32) &&& 31).toUInt32).toInt32).toUInt32.toUInt16.toUInt32.toInt32))] [])) _
    refine XS.iloadN X0.here hx rfl (hb hby d5_30) rfl ?_
    show Steps p.tables e below (s₁.setTop (mkF m 31 #[.val (.int p1), .val (.int (p1 &&& (3 : Int32))), .val (.int (((p1.toUInt32 >>> ((2 : Int32) &&& 31).toUInt32).toInt32).toUInt32.toUInt16.toUInt32.toInt32))] [(.int (((p1.toUInt32 >>> ((2 : Int32) &&& 31).toUInt32).toInt32).toUInt32.toUInt16.toUInt32.toInt32))])) _
    refine XS.bipush X0.here hx rfl (hb hby d5_31) ?_
    show Steps p.tables e below (s₁.setTop (mkF m 33 #[.val (.int p1), .val (.int (p1 &&& (3 : Int32))), .val (.int (((p1.toUInt32 >>> ((2 : Int32) &&& 31).toUInt32).toInt32).toUInt32.toUInt16.toUInt32.toInt32))] [(.int (41 : Int32)), (.int (((p1.toUInt32 >>> ((2 : Int32) &&& 31).toUInt32).toInt32).toUInt32.toUInt16.toUInt32.toInt32))])) _
    refine XS.icmpYes X0.here hx rfl (pc0 := 33) (pc' := 41) rfl (hb hby d5_33) rfl (feq hc33).2 (by decide) (by decide) ?_
    show Steps p.tables e below (s₁.setTop (mkF m 41 #[.val (.int p1), .val (.int (p1 &&& (3 : Int32))), .val (.int (((p1.toUInt32 >>> ((2 : Int32) &&& 31).toUInt32).toInt32).toUInt32.toUInt16.toUInt32.toInt32))] [])) _
    refine XS.iloadN X0.here hx rfl (hb hby d5_41) rfl ?_
    show Steps p.tables e below (s₁.setTop (mkF m 42 #[.val (.int p1), .val (.int (p1 &&& (3 : Int32))), .val (.int (((p1.toUInt32 >>> ((2 : Int32) &&& 31).toUInt32).toInt32).toUInt32.toUInt16.toUInt32.toInt32))] [(.int (((p1.toUInt32 >>> ((2 : Int32) &&& 31).toUInt32).toInt32).toUInt32.toUInt16.toUInt32.toInt32))])) _
    exact own_retN X0 hx (t := .char) Bd.returns (by simp) (hb hby d5_42) (own_nar_char _) hr
  · show Q5 Z p1 h0 n0 _ s₁.heap _
    rw [e0]
    exact ⟨(congrArg (fun z => some (Value.int z)) ((by unfold own_draw; rw [if_neg hc5, if_neg hc13, if_neg (show ¬ own_ch p1 = 40 from hc27), if_neg (show ¬ own_ch p1 = 41 from hc33)]; rfl))), N0, rfl⟩

set_option maxRecDepth 65536 in
set_option maxHeartbeats 40000000 in
theorem rm5_ttff (l : Launch) (Z : State) (a0 : Array Value) (hw : ∀ d ∈ tables_1, d.before a0 Z = true) (ws : List Jvm.Cond) (p1 : Int32) (h0 : Heap) (n0 : Nat) (Z0 : n0 ≤ h0.size) (hc5 : ¬ ((p1 &&& (3 : Int32)) = (0 : Int32))) (hc13 : ¬ ((p1 &&& (3 : Int32)) = (1 : Int32))) (hc27 : ¬ ((((p1.toUInt32 >>> ((2 : Int32) &&& 31).toUInt32).toInt32).toUInt32.toUInt16.toUInt32.toInt32) = (40 : Int32))) (hc33 : (((p1.toUInt32 >>> ((2 : Int32) &&& 31).toUInt32).toInt32).toUInt32.toUInt16.toUInt32.toInt32) = (41 : Int32)) :
    MetFree l (⟨"com/example/olm/olm/db/ParenthesesReadPinLaw", "draw", "(I)C"⟩ : MethodName) (head1 (Jvm.Cond.code (⟨"com/example/olm/olm/db/ParenthesesReadPinLaw", "draw", "(I)C"⟩ : MethodName) method_2_code 3 (some .char) :: ws) ({ frames := 0, cells := 0, slots := 0, locals := 0 } : Room)) (fun a U => a = #[(.int p1)] ∧ Z.Warmed39 U.vm ∧ U.heap = h0) (fun _ _ _ _ _ => True) (fun _ U o U' => ∃ v L, o = .returned v ∧ Q5 Z p1 h0 n0 v U'.heap L ∧ FrameEnd U o U' L ({ frames := 0, cells := 0, slots := 0, locals := 0 } : Room).cells ({ frames := 0, cells := 0, slots := 0, locals := 0 } : Room).slots) := by
  refine MetFree.of_bodySF (plainFor_of_name pn_5) hisR ?_
  intro p e s m args below meth c s₁ Bd hml0 hP hK
  obtain ⟨rfl, hZ, hh⟩ := hP
  have hx := Bd.exec
  have hby := Bd.bytes
  have hml : c.maxLocals = 3 := hml0
  have hown : s.vm.findClass "com/example/olm/olm/db/ParenthesesReadPinLaw" = some m.cls := findClass_of_methodNamed Bd.named
  have hnm := (name_of_methodNamed Bd.named Bd.method).1
  have X0 : Stand p l e ({ frames := 0, cells := 0, slots := 0, locals := 0 } : Room) s m #[(.int p1)] below meth c s₁ [] 0 0 := Stand.of_body Bd
  have e0 : s₁.heap = h0 := by rw [← hh, Bd.state]; rfl
  have N0 := Fr.nil n0
  have pre0 : ∀ t, Steps p.tables e below (s₁.setTop (mkF m 0 #[.val (.int p1), .unset, .unset] [])) t → Steps p.tables e below (s₁.setTop (entryFrame m #[(.int p1)] 3)) t := fun t k => castTop (ef_5 m p1) k

  obtain ⟨fs, hr, hrun, hended, hW, hsame⟩ := X0.leave (v := some (.int (((((p1.toUInt32 >>> ((2 : Int32) &&& 31).toUInt32).toInt32).toUInt32.toUInt16.toUInt32.toInt32) + (2 : Int32)).toUInt32.toUInt16.toUInt32.toInt32))) (fun h => by rw [Bd.returns] at h; cases h)
  refine ⟨_, _, pre0 _ ?_, hrun, hended, _, _, rfl, ?_, ⟨_, rfl⟩, hW, hsame.mono (by decide) (by decide)⟩
  · show Steps p.tables e below (s₁.setTop (mkF m 0 #[.val (.int p1), .unset, .unset] [])) _
    refine XS.iloadN X0.here hx rfl (hb hby d5_0) rfl ?_
    show Steps p.tables e below (s₁.setTop (mkF m 1 #[.val (.int p1), .unset, .unset] [(.int p1)])) _
    refine XS.iconst X0.here hx rfl (hb hby d5_1) ?_
    show Steps p.tables e below (s₁.setTop (mkF m 2 #[.val (.int p1), .unset, .unset] [(.int (3 : Int32)), (.int p1)])) _
    refine XS.iand X0.here hx rfl (hb hby d5_2) rfl ?_
    show Steps p.tables e below (s₁.setTop (mkF m 3 #[.val (.int p1), .unset, .unset] [(.int (p1 &&& (3 : Int32)))])) _
    refine XS.istoreN X0.here hx rfl (hb hby d5_3) rfl (l' := #[.val (.int p1), .val (.int (p1 &&& (3 : Int32))), .unset]) rfl ?_
    show Steps p.tables e below (s₁.setTop (mkF m 4 #[.val (.int p1), .val (.int (p1 &&& (3 : Int32))), .unset] [])) _
    refine XS.iloadN X0.here hx rfl (hb hby d5_4) rfl ?_
    show Steps p.tables e below (s₁.setTop (mkF m 5 #[.val (.int p1), .val (.int (p1 &&& (3 : Int32))), .unset] [(.int (p1 &&& (3 : Int32)))])) _
    refine XS.ifYes X0.here hx rfl (pc0 := 5) (pc' := 11) rfl (hb hby d5_5) rfl ((if0 _ _).trans (feq hc5).2) (by decide) (by decide) ?_
    show Steps p.tables e below (s₁.setTop (mkF m 11 #[.val (.int p1), .val (.int (p1 &&& (3 : Int32))), .unset] [])) _
    refine XS.iloadN X0.here hx rfl (hb hby d5_11) rfl ?_
    show Steps p.tables e below (s₁.setTop (mkF m 12 #[.val (.int p1), .val (.int (p1 &&& (3 : Int32))), .unset] [(.int (p1 &&& (3 : Int32)))])) _
    refine XS.iconst X0.here hx rfl (hb hby d5_12) ?_
    show Steps p.tables e below (s₁.setTop (mkF m 13 #[.val (.int p1), .val (.int (p1 &&& (3 : Int32))), .unset] [(.int (1 : Int32)), (.int (p1 &&& (3 : Int32)))])) _
    refine XS.icmpYes X0.here hx rfl (pc0 := 13) (pc' := 19) rfl (hb hby d5_13) rfl (feq hc13).2 (by decide) (by decide) ?_
    show Steps p.tables e below (s₁.setTop (mkF m 19 #[.val (.int p1), .val (.int (p1 &&& (3 : Int32))), .unset] [])) _
    refine XS.iloadN X0.here hx rfl (hb hby d5_19) rfl ?_
    show Steps p.tables e below (s₁.setTop (mkF m 20 #[.val (.int p1), .val (.int (p1 &&& (3 : Int32))), .unset] [(.int p1)])) _
    refine XS.iconst X0.here hx rfl (hb hby d5_20) ?_
    show Steps p.tables e below (s₁.setTop (mkF m 21 #[.val (.int p1), .val (.int (p1 &&& (3 : Int32))), .unset] [(.int (2 : Int32)), (.int p1)])) _
    refine XS.iushr X0.here hx rfl (hb hby d5_21) rfl ?_
    show Steps p.tables e below (s₁.setTop (mkF m 22 #[.val (.int p1), .val (.int (p1 &&& (3 : Int32))), .unset] [(.int ((p1.toUInt32 >>> ((2 : Int32) &&& 31).toUInt32).toInt32))])) _
    refine XS.i2c X0.here hx rfl (hb hby d5_22) rfl ?_
    show Steps p.tables e below (s₁.setTop (mkF m 23 #[.val (.int p1), .val (.int (p1 &&& (3 : Int32))), .unset] [(.int (((p1.toUInt32 >>> ((2 : Int32) &&& 31).toUInt32).toInt32).toUInt32.toUInt16.toUInt32.toInt32))])) _
    refine XS.istoreN X0.here hx rfl (hb hby d5_23) rfl (l' := #[.val (.int p1), .val (.int (p1 &&& (3 : Int32))), .val (.int (((p1.toUInt32 >>> ((2 : Int32) &&& 31).toUInt32).toInt32).toUInt32.toUInt16.toUInt32.toInt32))]) rfl ?_
    show Steps p.tables e below (s₁.setTop (mkF m 24 #[.val (.int p1), .val (.int (p1 &&& (3 : Int32))), .val (.int (((p1.toUInt32 >>> ((2 : Int32) &&& 31).toUInt32).toInt32).toUInt32.toUInt16.toUInt32.toInt32))] [])) _
    refine XS.iloadN X0.here hx rfl (hb hby d5_24) rfl ?_
    show Steps p.tables e below (s₁.setTop (mkF m 25 #[.val (.int p1), .val (.int (p1 &&& (3 : Int32))), .val (.int (((p1.toUInt32 >>> ((2 : Int32) &&& 31).toUInt32).toInt32).toUInt32.toUInt16.toUInt32.toInt32))] [(.int (((p1.toUInt32 >>> ((2 : Int32) &&& 31).toUInt32).toInt32).toUInt32.toUInt16.toUInt32.toInt32))])) _
    refine XS.bipush X0.here hx rfl (hb hby d5_25) ?_
    show Steps p.tables e below (s₁.setTop (mkF m 27 #[.val (.int p1), .val (.int (p1 &&& (3 : Int32))), .val (.int (((p1.toUInt32 >>> ((2 : Int32) &&& 31).toUInt32).toInt32).toUInt32.toUInt16.toUInt32.toInt32))] [(.int (40 : Int32)), (.int (((p1.toUInt32 >>> ((2 : Int32) &&& 31).toUInt32).toInt32).toUInt32.toUInt16.toUInt32.toInt32))])) _
    refine XS.icmpNo X0.here hx rfl (hb hby d5_27) rfl (feq hc27).1 ?_
    show Steps p.tables e below (s₁.setTop (mkF m 30 #[.val (.int p1), .val (.int (p1 &&& (3 : Int32))), .val (.int (((p1.toUInt32 >>> ((2 : Int32) &&& 31).toUInt32).toInt32).toUInt32.toUInt16.toUInt32.toInt32))] [])) _
    refine XS.iloadN X0.here hx rfl (hb hby d5_30) rfl ?_
    show Steps p.tables e below (s₁.setTop (mkF m 31 #[.val (.int p1), .val (.int (p1 &&& (3 : Int32))), .val (.int (((p1.toUInt32 >>> ((2 : Int32) &&& 31).toUInt32).toInt32).toUInt32.toUInt16.toUInt32.toInt32))] [(.int (((p1.toUInt32 >>> ((2 : Int32) &&& 31).toUInt32).toInt32).toUInt32.toUInt16.toUInt32.toInt32))])) _
    refine XS.bipush X0.here hx rfl (hb hby d5_31) ?_
    show Steps p.tables e below (s₁.setTop (mkF m 33 #[.val (.int p1), .val (.int (p1 &&& (3 : Int32))), .val (.int (((p1.toUInt32 >>> ((2 : Int32) &&& 31).toUInt32).toInt32).toUInt32.toUInt16.toUInt32.toInt32))] [(.int (41 : Int32)), (.int (((p1.toUInt32 >>> ((2 : Int32) &&& 31).toUInt32).toInt32).toUInt32.toUInt16.toUInt32.toInt32))])) _
    refine XS.icmpNo X0.here hx rfl (hb hby d5_33) rfl (teq hc33).2 ?_
    show Steps p.tables e below (s₁.setTop (mkF m 36 #[.val (.int p1), .val (.int (p1 &&& (3 : Int32))), .val (.int (((p1.toUInt32 >>> ((2 : Int32) &&& 31).toUInt32).toInt32).toUInt32.toUInt16.toUInt32.toInt32))] [])) _
    refine XS.iloadN X0.here hx rfl (hb hby d5_36) rfl ?_
    show Steps p.tables e below (s₁.setTop (mkF m 37 #[.val (.int p1), .val (.int (p1 &&& (3 : Int32))), .val (.int (((p1.toUInt32 >>> ((2 : Int32) &&& 31).toUInt32).toInt32).toUInt32.toUInt16.toUInt32.toInt32))] [(.int (((p1.toUInt32 >>> ((2 : Int32) &&& 31).toUInt32).toInt32).toUInt32.toUInt16.toUInt32.toInt32))])) _
    refine XS.iconst X0.here hx rfl (hb hby d5_37) ?_
    show Steps p.tables e below (s₁.setTop (mkF m 38 #[.val (.int p1), .val (.int (p1 &&& (3 : Int32))), .val (.int (((p1.toUInt32 >>> ((2 : Int32) &&& 31).toUInt32).toInt32).toUInt32.toUInt16.toUInt32.toInt32))] [(.int (2 : Int32)), (.int (((p1.toUInt32 >>> ((2 : Int32) &&& 31).toUInt32).toInt32).toUInt32.toUInt16.toUInt32.toInt32))])) _
    refine XS.iadd X0.here hx rfl (hb hby d5_38) rfl ?_
    show Steps p.tables e below (s₁.setTop (mkF m 39 #[.val (.int p1), .val (.int (p1 &&& (3 : Int32))), .val (.int (((p1.toUInt32 >>> ((2 : Int32) &&& 31).toUInt32).toInt32).toUInt32.toUInt16.toUInt32.toInt32))] [(.int ((((p1.toUInt32 >>> ((2 : Int32) &&& 31).toUInt32).toInt32).toUInt32.toUInt16.toUInt32.toInt32) + (2 : Int32)))])) _
    refine XS.i2c X0.here hx rfl (hb hby d5_39) rfl ?_
    show Steps p.tables e below (s₁.setTop (mkF m 40 #[.val (.int p1), .val (.int (p1 &&& (3 : Int32))), .val (.int (((p1.toUInt32 >>> ((2 : Int32) &&& 31).toUInt32).toInt32).toUInt32.toUInt16.toUInt32.toInt32))] [(.int (((((p1.toUInt32 >>> ((2 : Int32) &&& 31).toUInt32).toInt32).toUInt32.toUInt16.toUInt32.toInt32) + (2 : Int32)).toUInt32.toUInt16.toUInt32.toInt32))])) _
    refine XS.istoreN X0.here hx rfl (hb hby d5_40) rfl (l' := #[.val (.int p1), .val (.int (p1 &&& (3 : Int32))), .val (.int (((((p1.toUInt32 >>> ((2 : Int32) &&& 31).toUInt32).toInt32).toUInt32.toUInt16.toUInt32.toInt32) + (2 : Int32)).toUInt32.toUInt16.toUInt32.toInt32))]) rfl ?_
    show Steps p.tables e below (s₁.setTop (mkF m 41 #[.val (.int p1), .val (.int (p1 &&& (3 : Int32))), .val (.int (((((p1.toUInt32 >>> ((2 : Int32) &&& 31).toUInt32).toInt32).toUInt32.toUInt16.toUInt32.toInt32) + (2 : Int32)).toUInt32.toUInt16.toUInt32.toInt32))] [])) _
    refine XS.iloadN X0.here hx rfl (hb hby d5_41) rfl ?_
    show Steps p.tables e below (s₁.setTop (mkF m 42 #[.val (.int p1), .val (.int (p1 &&& (3 : Int32))), .val (.int (((((p1.toUInt32 >>> ((2 : Int32) &&& 31).toUInt32).toInt32).toUInt32.toUInt16.toUInt32.toInt32) + (2 : Int32)).toUInt32.toUInt16.toUInt32.toInt32))] [(.int (((((p1.toUInt32 >>> ((2 : Int32) &&& 31).toUInt32).toInt32).toUInt32.toUInt16.toUInt32.toInt32) + (2 : Int32)).toUInt32.toUInt16.toUInt32.toInt32))])) _
    exact own_retN X0 hx (t := .char) Bd.returns (by simp) (hb hby d5_42) (own_nar_char _) hr
  · show Q5 Z p1 h0 n0 _ s₁.heap _
    rw [e0]
    exact ⟨(congrArg (fun z => some (Value.int z)) ((by unfold own_draw; rw [if_neg hc5, if_neg hc13, if_neg (show ¬ own_ch p1 = 40 from hc27), if_pos (show own_ch p1 = 41 from hc33)]; rfl))), N0, rfl⟩

theorem rm5 (l : Launch) (Z : State) (a0 : Array Value) (hw : ∀ d ∈ tables_1, d.before a0 Z = true) (ws : List Jvm.Cond) (p1 : Int32) (h0 : Heap) (n0 : Nat) (Z0 : n0 ≤ h0.size) :
    MetFree l (⟨"com/example/olm/olm/db/ParenthesesReadPinLaw", "draw", "(I)C"⟩ : MethodName) (head1 (Jvm.Cond.code (⟨"com/example/olm/olm/db/ParenthesesReadPinLaw", "draw", "(I)C"⟩ : MethodName) method_2_code 3 (some .char) :: ws) ({ frames := 0, cells := 0, slots := 0, locals := 0 } : Room)) (fun a U => a = #[(.int p1)] ∧ Z.Warmed39 U.vm ∧ U.heap = h0) (fun _ _ _ _ _ => True) (fun _ U o U' => ∃ v L, o = .returned v ∧ Q5 Z p1 h0 n0 v U'.heap L ∧ FrameEnd U o U' L ({ frames := 0, cells := 0, slots := 0, locals := 0 } : Room).cells ({ frames := 0, cells := 0, slots := 0, locals := 0 } : Room).slots) := by
  by_cases h5 : (p1 &&& (3 : Int32)) = (0 : Int32)
  · exact rm5_f l Z a0 hw ws p1 h0 n0 Z0 h5
  · by_cases h13 : (p1 &&& (3 : Int32)) = (1 : Int32)
    · exact rm5_tf l Z a0 hw ws p1 h0 n0 Z0 h5 h13
    · by_cases h27 : own_ch p1 = 40
      · exact rm5_ttt l Z a0 hw ws p1 h0 n0 Z0 h5 h13 h27
      · by_cases h33 : own_ch p1 = 41
        · exact rm5_ttff l Z a0 hw ws p1 h0 n0 Z0 h5 h13 h27 h33
        · exact rm5_ttft l Z a0 hw ws p1 h0 n0 Z0 h5 h13 h27 h33
def Q6 (Z : State) (a1 : Addr) (p2 : Int32) (w : Int32) (h0 : Heap) (n0 : Nat) (v : Option Value) (h : Heap) (L : List Loc) : Prop := v = some (.int (own_sel (if_icmp.holds .lt (own_read p2 w) (0 : Int32)) (0 : Int32) (1 : Int32))) ∧ Fr n0 L ∧ Keep h0 h [a1] ∧ Exa Z h a1 "com/example/olm/olm/db/Parentheses" ∧ Fld Z h a1 "com/example/olm/olm/db/Parentheses" "depth" "I" (.int (own_read p2 w))
set_option maxRecDepth 65536 in
set_option maxHeartbeats 40000000 in
theorem rm6_fb (l : Launch) (Z : State) (a0 : Array Value) (hw : ∀ d ∈ tables_1, d.before a0 Z = true) (ws : List Jvm.Cond) (a1 : Addr) (p2 : Int32) (w : Int32) (h0 : Heap) (n0 : Nat) (Z0 : n0 ≤ h0.size) (F_depth_a1 : Fld Z h0 a1 "com/example/olm/olm/db/Parentheses" "depth" "I" (.int w)) (E_a1 : Exa Z h0 a1 "com/example/olm/olm/db/Parentheses") (g_a1 : n0 ≤ a1) (hc3 : p2 = (40 : Int32)) :
    MetFree l (⟨"com/example/olm/olm/db/Parentheses", "read", "(C)Z"⟩ : MethodName) (head1 (Jvm.Cond.code (⟨"com/example/olm/olm/db/Parentheses", "read", "(C)Z"⟩ : MethodName) prog_28_method_2_code 2 (some .boolean) :: ws) ({ frames := 0, cells := 0, slots := 0, locals := 0 } : Room)) (fun a U => a = #[(.ref a1), (.int p2)] ∧ Z.Warmed39 U.vm ∧ U.heap = h0) (fun _ _ _ _ _ => True) (fun _ U o U' => ∃ v L, o = .returned v ∧ Q6 Z a1 p2 w h0 n0 v U'.heap L ∧ FrameEnd U o U' L ({ frames := 0, cells := 0, slots := 0, locals := 0 } : Room).cells ({ frames := 0, cells := 0, slots := 0, locals := 0 } : Room).slots) := by
  refine MetFree.of_bodySF (plainFor_of_name pn_6) hisR ?_
  intro p e s m args below meth c s₁ Bd hml0 hP hK
  obtain ⟨rfl, hZ, hh⟩ := hP
  have hx := Bd.exec
  have hby := Bd.bytes
  have hml : c.maxLocals = 2 := hml0
  have hown : s.vm.findClass "com/example/olm/olm/db/Parentheses" = some m.cls := findClass_of_methodNamed Bd.named
  have hnm := (name_of_methodNamed Bd.named Bd.method).1
  have X0 : Stand p l e ({ frames := 0, cells := 0, slots := 0, locals := 0 } : Room) s m #[(.ref a1), (.int p2)] below meth c s₁ [] 0 0 := Stand.of_body Bd
  have e0 : s₁.heap = h0 := by rw [← hh, Bd.state]; rfl
  have N0 := Fr.nil n0
  have pre0 : ∀ t, Steps p.tables e below (s₁.setTop (mkF m 0 #[.val (.ref a1), .val (.int p2)] [])) t → Steps p.tables e below (s₁.setTop (entryFrame m #[(.ref a1), (.int p2)] 2)) t := fun t k => castTop (ef_6 m a1 p2) k
  obtain ⟨T4, X4, e4, st4⟩ := getF X0 hx hZ hown (host := "") (Or.inl (hw _ (List.mem_of_getElem? (i := 14) rfl))) Via.refl e0 F_depth_a1 (g := (mkF m 8 #[.val (.ref a1), .val (.int p2)] [(.ref a1), (.ref a1)])) rfl rfl (hb hby d6_8)
  obtain ⟨T5, h5, X5, e5, W5, st5⟩ := putF X4 hx hZ hown (host := "") (Or.inl (hw _ (List.mem_of_getElem? (i := 14) rfl))) Via.refl e4 F_depth_a1 E_a1 (Or.inl (hw _ (List.mem_of_getElem? (i := 15) rfl))) (hw _ (List.mem_of_getElem? (i := 1) rfl)) (ty := .int) (by decide) rfl rfl (g := (mkF m 13 #[.val (.ref a1), .val (.int p2)] [(.int (w + (1 : Int32))), (.ref a1)])) rfl rfl (hb hby d6_13)
  have Fw5 := F_depth_a1.same W5      -- the field now holds (.int (w + (1 : Int32)))
  have K5 : Keep h0 h5 [a1] := (Keep.refl h0 [a1]).wr W5 (Or.inl (List.mem_of_getElem? (i := 0) rfl))
  have N5 := Fr.snoc X5 N0 g_a1
  obtain ⟨T6, X6, e6, st6⟩ := getF X5 hx hZ hown (host := "") (Or.inl (hw _ (List.mem_of_getElem? (i := 14) rfl))) Via.refl e5 Fw5 (g := (mkF m 36 #[.val (.ref a1), .val (.int p2)] [(.ref a1)])) rfl rfl (hb hby d6_36)
  obtain ⟨fs, hr, hrun, hended, hW, hsame⟩ := X6.leave (v := some (.int (own_sel (if_icmp.holds .lt (w + (1 : Int32)) (0 : Int32)) (0 : Int32) (1 : Int32)))) (fun h => by rw [Bd.returns] at h; cases h)
  refine ⟨_, _, pre0 _ ?_, hrun, hended, _, _, rfl, ?_, ⟨_, rfl⟩, hW, hsame.mono (by decide) (by decide)⟩
  · show Steps p.tables e below (s₁.setTop (mkF m 0 #[.val (.ref a1), .val (.int p2)] [])) _
    refine XS.iloadN X0.here hx rfl (hb hby d6_0) rfl ?_
    show Steps p.tables e below (s₁.setTop (mkF m 1 #[.val (.ref a1), .val (.int p2)] [(.int p2)])) _
    refine XS.bipush X0.here hx rfl (hb hby d6_1) ?_
    show Steps p.tables e below (s₁.setTop (mkF m 3 #[.val (.ref a1), .val (.int p2)] [(.int (40 : Int32)), (.int p2)])) _
    refine XS.icmpNo X0.here hx rfl (hb hby d6_3) rfl (teq hc3).2 ?_
    show Steps p.tables e below (s₁.setTop (mkF m 6 #[.val (.ref a1), .val (.int p2)] [])) _
    refine XS.aloadN X0.here hx rfl (hb hby d6_6) rfl rfl ?_
    show Steps p.tables e below (s₁.setTop (mkF m 7 #[.val (.ref a1), .val (.int p2)] [(.ref a1)])) _
    refine XS.dup X0.here hx rfl (hb hby d6_7) rfl rfl ?_
    show Steps p.tables e below (s₁.setTop (mkF m 8 #[.val (.ref a1), .val (.int p2)] [(.ref a1), (.ref a1)])) _
    refine st4 _ ?_
    show Steps p.tables e below (T4.setTop (mkF m 11 #[.val (.ref a1), .val (.int p2)] [(.int w), (.ref a1)])) _
    refine XS.iconst X4.here hx rfl (hb hby d6_11) ?_
    show Steps p.tables e below (T4.setTop (mkF m 12 #[.val (.ref a1), .val (.int p2)] [(.int (1 : Int32)), (.int w), (.ref a1)])) _
    refine XS.iadd X4.here hx rfl (hb hby d6_12) rfl ?_
    show Steps p.tables e below (T4.setTop (mkF m 13 #[.val (.ref a1), .val (.int p2)] [(.int (w + (1 : Int32))), (.ref a1)])) _
    refine st5 _ ?_
    show Steps p.tables e below (T5.setTop (mkF m 16 #[.val (.ref a1), .val (.int p2)] [])) _
    refine XS.goto X5.here hx rfl (pc0 := 16) (pc' := 35) rfl (hb hby d6_16) (by decide) (by decide) ?_
    show Steps p.tables e below (T5.setTop (mkF m 35 #[.val (.ref a1), .val (.int p2)] [])) _
    refine XS.aloadN X5.here hx rfl (hb hby d6_35) rfl rfl ?_
    show Steps p.tables e below (T5.setTop (mkF m 36 #[.val (.ref a1), .val (.int p2)] [(.ref a1)])) _
    refine st6 _ ?_
    show Steps p.tables e below (T6.setTop (mkF m 39 #[.val (.ref a1), .val (.int p2)] [(.int (w + (1 : Int32)))])) _
    refine own_bif X6.here hx rfl (pc0 := 39) rfl (hb hby d6_39) (hb hby d6_42) (hb hby d6_43) (hb hby d6_46) rfl ?_
    show Steps p.tables e below (T6.setTop (mkF m 47 #[.val (.ref a1), .val (.int p2)] [(.int (own_sel (if_icmp.holds .lt (w + (1 : Int32)) (0 : Int32)) (0 : Int32) (1 : Int32)))])) _
    exact own_retN X6 hx (t := .boolean) Bd.returns (by simp) (hb hby d6_47) (own_nar_sel _) hr
  · show Q6 Z a1 p2 w h0 n0 _ T6.heap _
    rw [e6]
    have q : own_read p2 w = (w + (1 : Int32)) := (by unfold own_read; rw [if_pos hc3])
    unfold Q6; rw [q]
    exact ⟨rfl, N5, K5, (E_a1.wr W5), Fw5⟩

set_option maxRecDepth 65536 in
set_option maxHeartbeats 40000000 in
theorem rm6_tfb (l : Launch) (Z : State) (a0 : Array Value) (hw : ∀ d ∈ tables_1, d.before a0 Z = true) (ws : List Jvm.Cond) (a1 : Addr) (p2 : Int32) (w : Int32) (h0 : Heap) (n0 : Nat) (Z0 : n0 ≤ h0.size) (F_depth_a1 : Fld Z h0 a1 "com/example/olm/olm/db/Parentheses" "depth" "I" (.int w)) (E_a1 : Exa Z h0 a1 "com/example/olm/olm/db/Parentheses") (g_a1 : n0 ≤ a1) (hc3 : ¬ (p2 = (40 : Int32))) (hc22 : p2 = (41 : Int32)) :
    MetFree l (⟨"com/example/olm/olm/db/Parentheses", "read", "(C)Z"⟩ : MethodName) (head1 (Jvm.Cond.code (⟨"com/example/olm/olm/db/Parentheses", "read", "(C)Z"⟩ : MethodName) prog_28_method_2_code 2 (some .boolean) :: ws) ({ frames := 0, cells := 0, slots := 0, locals := 0 } : Room)) (fun a U => a = #[(.ref a1), (.int p2)] ∧ Z.Warmed39 U.vm ∧ U.heap = h0) (fun _ _ _ _ _ => True) (fun _ U o U' => ∃ v L, o = .returned v ∧ Q6 Z a1 p2 w h0 n0 v U'.heap L ∧ FrameEnd U o U' L ({ frames := 0, cells := 0, slots := 0, locals := 0 } : Room).cells ({ frames := 0, cells := 0, slots := 0, locals := 0 } : Room).slots) := by
  refine MetFree.of_bodySF (plainFor_of_name pn_6) hisR ?_
  intro p e s m args below meth c s₁ Bd hml0 hP hK
  obtain ⟨rfl, hZ, hh⟩ := hP
  have hx := Bd.exec
  have hby := Bd.bytes
  have hml : c.maxLocals = 2 := hml0
  have hown : s.vm.findClass "com/example/olm/olm/db/Parentheses" = some m.cls := findClass_of_methodNamed Bd.named
  have hnm := (name_of_methodNamed Bd.named Bd.method).1
  have X0 : Stand p l e ({ frames := 0, cells := 0, slots := 0, locals := 0 } : Room) s m #[(.ref a1), (.int p2)] below meth c s₁ [] 0 0 := Stand.of_body Bd
  have e0 : s₁.heap = h0 := by rw [← hh, Bd.state]; rfl
  have N0 := Fr.nil n0
  have pre0 : ∀ t, Steps p.tables e below (s₁.setTop (mkF m 0 #[.val (.ref a1), .val (.int p2)] [])) t → Steps p.tables e below (s₁.setTop (entryFrame m #[(.ref a1), (.int p2)] 2)) t := fun t k => castTop (ef_6 m a1 p2) k
  obtain ⟨T4, X4, e4, st4⟩ := getF X0 hx hZ hown (host := "") (Or.inl (hw _ (List.mem_of_getElem? (i := 14) rfl))) Via.refl e0 F_depth_a1 (g := (mkF m 27 #[.val (.ref a1), .val (.int p2)] [(.ref a1), (.ref a1)])) rfl rfl (hb hby d6_27)
  obtain ⟨T5, h5, X5, e5, W5, st5⟩ := putF X4 hx hZ hown (host := "") (Or.inl (hw _ (List.mem_of_getElem? (i := 14) rfl))) Via.refl e4 F_depth_a1 E_a1 (Or.inl (hw _ (List.mem_of_getElem? (i := 15) rfl))) (hw _ (List.mem_of_getElem? (i := 1) rfl)) (ty := .int) (by decide) rfl rfl (g := (mkF m 32 #[.val (.ref a1), .val (.int p2)] [(.int (w - (1 : Int32))), (.ref a1)])) rfl rfl (hb hby d6_32)
  have Fw5 := F_depth_a1.same W5      -- the field now holds (.int (w - (1 : Int32)))
  have K5 : Keep h0 h5 [a1] := (Keep.refl h0 [a1]).wr W5 (Or.inl (List.mem_of_getElem? (i := 0) rfl))
  have N5 := Fr.snoc X5 N0 g_a1
  obtain ⟨T6, X6, e6, st6⟩ := getF X5 hx hZ hown (host := "") (Or.inl (hw _ (List.mem_of_getElem? (i := 14) rfl))) Via.refl e5 Fw5 (g := (mkF m 36 #[.val (.ref a1), .val (.int p2)] [(.ref a1)])) rfl rfl (hb hby d6_36)
  obtain ⟨fs, hr, hrun, hended, hW, hsame⟩ := X6.leave (v := some (.int (own_sel (if_icmp.holds .lt (w - (1 : Int32)) (0 : Int32)) (0 : Int32) (1 : Int32)))) (fun h => by rw [Bd.returns] at h; cases h)
  refine ⟨_, _, pre0 _ ?_, hrun, hended, _, _, rfl, ?_, ⟨_, rfl⟩, hW, hsame.mono (by decide) (by decide)⟩
  · show Steps p.tables e below (s₁.setTop (mkF m 0 #[.val (.ref a1), .val (.int p2)] [])) _
    refine XS.iloadN X0.here hx rfl (hb hby d6_0) rfl ?_
    show Steps p.tables e below (s₁.setTop (mkF m 1 #[.val (.ref a1), .val (.int p2)] [(.int p2)])) _
    refine XS.bipush X0.here hx rfl (hb hby d6_1) ?_
    show Steps p.tables e below (s₁.setTop (mkF m 3 #[.val (.ref a1), .val (.int p2)] [(.int (40 : Int32)), (.int p2)])) _
    refine XS.icmpYes X0.here hx rfl (pc0 := 3) (pc' := 19) rfl (hb hby d6_3) rfl (feq hc3).2 (by decide) (by decide) ?_
    show Steps p.tables e below (s₁.setTop (mkF m 19 #[.val (.ref a1), .val (.int p2)] [])) _
    refine XS.iloadN X0.here hx rfl (hb hby d6_19) rfl ?_
    show Steps p.tables e below (s₁.setTop (mkF m 20 #[.val (.ref a1), .val (.int p2)] [(.int p2)])) _
    refine XS.bipush X0.here hx rfl (hb hby d6_20) ?_
    show Steps p.tables e below (s₁.setTop (mkF m 22 #[.val (.ref a1), .val (.int p2)] [(.int (41 : Int32)), (.int p2)])) _
    refine XS.icmpNo X0.here hx rfl (hb hby d6_22) rfl (teq hc22).2 ?_
    show Steps p.tables e below (s₁.setTop (mkF m 25 #[.val (.ref a1), .val (.int p2)] [])) _
    refine XS.aloadN X0.here hx rfl (hb hby d6_25) rfl rfl ?_
    show Steps p.tables e below (s₁.setTop (mkF m 26 #[.val (.ref a1), .val (.int p2)] [(.ref a1)])) _
    refine XS.dup X0.here hx rfl (hb hby d6_26) rfl rfl ?_
    show Steps p.tables e below (s₁.setTop (mkF m 27 #[.val (.ref a1), .val (.int p2)] [(.ref a1), (.ref a1)])) _
    refine st4 _ ?_
    show Steps p.tables e below (T4.setTop (mkF m 30 #[.val (.ref a1), .val (.int p2)] [(.int w), (.ref a1)])) _
    refine XS.iconst X4.here hx rfl (hb hby d6_30) ?_
    show Steps p.tables e below (T4.setTop (mkF m 31 #[.val (.ref a1), .val (.int p2)] [(.int (1 : Int32)), (.int w), (.ref a1)])) _
    refine XS.isub X4.here hx rfl (hb hby d6_31) rfl ?_
    show Steps p.tables e below (T4.setTop (mkF m 32 #[.val (.ref a1), .val (.int p2)] [(.int (w - (1 : Int32))), (.ref a1)])) _
    refine st5 _ ?_
    show Steps p.tables e below (T5.setTop (mkF m 35 #[.val (.ref a1), .val (.int p2)] [])) _
    refine XS.aloadN X5.here hx rfl (hb hby d6_35) rfl rfl ?_
    show Steps p.tables e below (T5.setTop (mkF m 36 #[.val (.ref a1), .val (.int p2)] [(.ref a1)])) _
    refine st6 _ ?_
    show Steps p.tables e below (T6.setTop (mkF m 39 #[.val (.ref a1), .val (.int p2)] [(.int (w - (1 : Int32)))])) _
    refine own_bif X6.here hx rfl (pc0 := 39) rfl (hb hby d6_39) (hb hby d6_42) (hb hby d6_43) (hb hby d6_46) rfl ?_
    show Steps p.tables e below (T6.setTop (mkF m 47 #[.val (.ref a1), .val (.int p2)] [(.int (own_sel (if_icmp.holds .lt (w - (1 : Int32)) (0 : Int32)) (0 : Int32) (1 : Int32)))])) _
    exact own_retN X6 hx (t := .boolean) Bd.returns (by simp) (hb hby d6_47) (own_nar_sel _) hr
  · show Q6 Z a1 p2 w h0 n0 _ T6.heap _
    rw [e6]
    have q : own_read p2 w = (w - (1 : Int32)) := (by unfold own_read; rw [if_neg hc3, if_pos hc22])
    unfold Q6; rw [q]
    exact ⟨rfl, N5, K5, (E_a1.wr W5), Fw5⟩

set_option maxRecDepth 65536 in
set_option maxHeartbeats 40000000 in
theorem rm6_ttb (l : Launch) (Z : State) (a0 : Array Value) (hw : ∀ d ∈ tables_1, d.before a0 Z = true) (ws : List Jvm.Cond) (a1 : Addr) (p2 : Int32) (w : Int32) (h0 : Heap) (n0 : Nat) (Z0 : n0 ≤ h0.size) (F_depth_a1 : Fld Z h0 a1 "com/example/olm/olm/db/Parentheses" "depth" "I" (.int w)) (E_a1 : Exa Z h0 a1 "com/example/olm/olm/db/Parentheses") (g_a1 : n0 ≤ a1) (hc3 : ¬ (p2 = (40 : Int32))) (hc22 : ¬ (p2 = (41 : Int32))) :
    MetFree l (⟨"com/example/olm/olm/db/Parentheses", "read", "(C)Z"⟩ : MethodName) (head1 (Jvm.Cond.code (⟨"com/example/olm/olm/db/Parentheses", "read", "(C)Z"⟩ : MethodName) prog_28_method_2_code 2 (some .boolean) :: ws) ({ frames := 0, cells := 0, slots := 0, locals := 0 } : Room)) (fun a U => a = #[(.ref a1), (.int p2)] ∧ Z.Warmed39 U.vm ∧ U.heap = h0) (fun _ _ _ _ _ => True) (fun _ U o U' => ∃ v L, o = .returned v ∧ Q6 Z a1 p2 w h0 n0 v U'.heap L ∧ FrameEnd U o U' L ({ frames := 0, cells := 0, slots := 0, locals := 0 } : Room).cells ({ frames := 0, cells := 0, slots := 0, locals := 0 } : Room).slots) := by
  refine MetFree.of_bodySF (plainFor_of_name pn_6) hisR ?_
  intro p e s m args below meth c s₁ Bd hml0 hP hK
  obtain ⟨rfl, hZ, hh⟩ := hP
  have hx := Bd.exec
  have hby := Bd.bytes
  have hml : c.maxLocals = 2 := hml0
  have hown : s.vm.findClass "com/example/olm/olm/db/Parentheses" = some m.cls := findClass_of_methodNamed Bd.named
  have hnm := (name_of_methodNamed Bd.named Bd.method).1
  have X0 : Stand p l e ({ frames := 0, cells := 0, slots := 0, locals := 0 } : Room) s m #[(.ref a1), (.int p2)] below meth c s₁ [] 0 0 := Stand.of_body Bd
  have e0 : s₁.heap = h0 := by rw [← hh, Bd.state]; rfl
  have N0 := Fr.nil n0
  have pre0 : ∀ t, Steps p.tables e below (s₁.setTop (mkF m 0 #[.val (.ref a1), .val (.int p2)] [])) t → Steps p.tables e below (s₁.setTop (entryFrame m #[(.ref a1), (.int p2)] 2)) t := fun t k => castTop (ef_6 m a1 p2) k
  obtain ⟨T4, X4, e4, st4⟩ := getF X0 hx hZ hown (host := "") (Or.inl (hw _ (List.mem_of_getElem? (i := 14) rfl))) Via.refl e0 F_depth_a1 (g := (mkF m 36 #[.val (.ref a1), .val (.int p2)] [(.ref a1)])) rfl rfl (hb hby d6_36)
  obtain ⟨fs, hr, hrun, hended, hW, hsame⟩ := X4.leave (v := some (.int (own_sel (if_icmp.holds .lt w (0 : Int32)) (0 : Int32) (1 : Int32)))) (fun h => by rw [Bd.returns] at h; cases h)
  refine ⟨_, _, pre0 _ ?_, hrun, hended, _, _, rfl, ?_, ⟨_, rfl⟩, hW, hsame.mono (by decide) (by decide)⟩
  · show Steps p.tables e below (s₁.setTop (mkF m 0 #[.val (.ref a1), .val (.int p2)] [])) _
    refine XS.iloadN X0.here hx rfl (hb hby d6_0) rfl ?_
    show Steps p.tables e below (s₁.setTop (mkF m 1 #[.val (.ref a1), .val (.int p2)] [(.int p2)])) _
    refine XS.bipush X0.here hx rfl (hb hby d6_1) ?_
    show Steps p.tables e below (s₁.setTop (mkF m 3 #[.val (.ref a1), .val (.int p2)] [(.int (40 : Int32)), (.int p2)])) _
    refine XS.icmpYes X0.here hx rfl (pc0 := 3) (pc' := 19) rfl (hb hby d6_3) rfl (feq hc3).2 (by decide) (by decide) ?_
    show Steps p.tables e below (s₁.setTop (mkF m 19 #[.val (.ref a1), .val (.int p2)] [])) _
    refine XS.iloadN X0.here hx rfl (hb hby d6_19) rfl ?_
    show Steps p.tables e below (s₁.setTop (mkF m 20 #[.val (.ref a1), .val (.int p2)] [(.int p2)])) _
    refine XS.bipush X0.here hx rfl (hb hby d6_20) ?_
    show Steps p.tables e below (s₁.setTop (mkF m 22 #[.val (.ref a1), .val (.int p2)] [(.int (41 : Int32)), (.int p2)])) _
    refine XS.icmpYes X0.here hx rfl (pc0 := 22) (pc' := 35) rfl (hb hby d6_22) rfl (feq hc22).2 (by decide) (by decide) ?_
    show Steps p.tables e below (s₁.setTop (mkF m 35 #[.val (.ref a1), .val (.int p2)] [])) _
    refine XS.aloadN X0.here hx rfl (hb hby d6_35) rfl rfl ?_
    show Steps p.tables e below (s₁.setTop (mkF m 36 #[.val (.ref a1), .val (.int p2)] [(.ref a1)])) _
    refine st4 _ ?_
    show Steps p.tables e below (T4.setTop (mkF m 39 #[.val (.ref a1), .val (.int p2)] [(.int w)])) _
    refine own_bif X4.here hx rfl (pc0 := 39) rfl (hb hby d6_39) (hb hby d6_42) (hb hby d6_43) (hb hby d6_46) rfl ?_
    show Steps p.tables e below (T4.setTop (mkF m 47 #[.val (.ref a1), .val (.int p2)] [(.int (own_sel (if_icmp.holds .lt w (0 : Int32)) (0 : Int32) (1 : Int32)))])) _
    exact own_retN X4 hx (t := .boolean) Bd.returns (by simp) (hb hby d6_47) (own_nar_sel _) hr
  · show Q6 Z a1 p2 w h0 n0 _ T4.heap _
    rw [e4]
    have q : own_read p2 w = w := (by unfold own_read; rw [if_neg hc3, if_neg hc22])
    unfold Q6; rw [q]
    exact ⟨rfl, N0, Keep.refl _ _, E_a1, F_depth_a1⟩

theorem rm6 (l : Launch) (Z : State) (a0 : Array Value) (hw : ∀ d ∈ tables_1, d.before a0 Z = true) (ws : List Jvm.Cond) (a1 : Addr) (p2 : Int32) (w : Int32) (h0 : Heap) (n0 : Nat) (Z0 : n0 ≤ h0.size) (F_depth_a1 : Fld Z h0 a1 "com/example/olm/olm/db/Parentheses" "depth" "I" (.int w)) (E_a1 : Exa Z h0 a1 "com/example/olm/olm/db/Parentheses") (g_a1 : n0 ≤ a1) :
    MetFree l (⟨"com/example/olm/olm/db/Parentheses", "read", "(C)Z"⟩ : MethodName) (head1 (Jvm.Cond.code (⟨"com/example/olm/olm/db/Parentheses", "read", "(C)Z"⟩ : MethodName) prog_28_method_2_code 2 (some .boolean) :: ws) ({ frames := 0, cells := 0, slots := 0, locals := 0 } : Room)) (fun a U => a = #[(.ref a1), (.int p2)] ∧ Z.Warmed39 U.vm ∧ U.heap = h0) (fun _ _ _ _ _ => True) (fun _ U o U' => ∃ v L, o = .returned v ∧ Q6 Z a1 p2 w h0 n0 v U'.heap L ∧ FrameEnd U o U' L ({ frames := 0, cells := 0, slots := 0, locals := 0 } : Room).cells ({ frames := 0, cells := 0, slots := 0, locals := 0 } : Room).slots) := by
  by_cases hc3 : p2 = (40 : Int32)
  · exact rm6_fb l Z a0 hw ws a1 p2 w h0 n0 Z0 F_depth_a1 E_a1 g_a1 hc3
  · by_cases hc22 : p2 = (41 : Int32)
    · exact rm6_tfb l Z a0 hw ws a1 p2 w h0 n0 Z0 F_depth_a1 E_a1 g_a1 hc3 hc22
    · exact rm6_ttb l Z a0 hw ws a1 p2 w h0 n0 Z0 F_depth_a1 E_a1 g_a1 hc3 hc22
theorem os0_45 {z0 : Value} {s1 : Slot} {s2 : Slot} {s3 : Slot} {z4 : Value} {z5 : Value} {z6 : Value} {z7 : Value} {s8 : Slot} {v : Int32} (h : One s8) : storeLocals #[.val z0, s1, s2, s3, .val z4, .val z5, .val z6, .val z7, s8] 8 (.int v) = some #[.val z0, s1, s2, s3, .val z4, .val z5, .val z6, .val z7, .val (.int v)] := by
  rcases h with rfl | ⟨w, rfl, hw⟩
  · rfl
  · cases w <;> first | rfl | (simp [Value.category] at hw)
set_option maxRecDepth 65536 in
set_option maxHeartbeats 40000000 in
theorem tn0_22_104 {p : Program} {l : Launch} {e : Env} {s : State} {m : MethodId} {args : Array Value} {below : List Frame} {meth : Method} {c : Code} {T0 : State} {locs : List Loc} {Z : State} {a0 : Array Value} {h0 : Heap} (i0 : Int32) (s1 : Slot) (s2 : Slot) (s3 : Slot) (o4 : Addr) (i5 : Int32) (i6 : Int32) (i7 : Int32) (s8 : Slot) (n0 : Nat)
    (X0 : Stand p l e room_1 s m args below meth c T0 locs 1 1) (hx : p.tables.exec = Jvm.exec) (hZ : Z.Warmed39 s.vm) (hw : ∀ d ∈ tables_1, d.before a0 Z = true) (hby : c.code = code) (hml : c.maxLocals = 9) (hown : s.vm.findClass "com/example/olm/olm/db/ParenthesesReadPinLaw" = some m.cls) (e0 : T0.heap = h0) (Z0 : n0 ≤ h0.size) (N0 : Fr n0 locs) (g_o4 : n0 ≤ o4) (F_d : Fld Z h0 o4 "com/example/olm/olm/db/Parentheses" "depth" "I" (.int i6)) (E_o4 : Exa Z h0 o4 "com/example/olm/olm/db/Parentheses") (hs8 : One s8) (hc24 : ¬ (i7 = (0 : Int32))) (hc49 : ¬ (i5 = (0 : Int32))) :
    ∃ (T' : State) (h' : Heap) (locs' : List Loc), Stand p l e room_1 s m args below meth c T' locs' 1 1 ∧ T'.heap = h' ∧ Fr n0 locs' ∧ n0 ≤ h'.size ∧ Exa Z h' o4 "com/example/olm/olm/db/Parentheses" ∧ Fld Z h' o4 "com/example/olm/olm/db/Parentheses" "depth" "I" (.int (i6 + own_delta i0)) ∧
      ∀ target, Steps p.tables e below (T'.setTop (mkF m 104 #[.val (.int i0), s1, s2, s3, .val (.ref o4), .val (.int (1 : Int32)), .val (.int (i6 + (own_delta i0))), .val (.int (own_sel (if_icmp.holds .lt (i6 + (own_delta i0)) (0 : Int32)) (0 : Int32) (1 : Int32))), .val (.int (own_sel (if_icmp.holds .lt (own_read (own_draw i0) i6) (0 : Int32)) (0 : Int32) (1 : Int32)))] [])) target → Steps p.tables e below (T0.setTop (mkF m 22 #[.val (.int i0), s1, s2, s3, .val (.ref o4), .val (.int i5), .val (.int i6), .val (.int i7), s8] [])) target := by
  obtain ⟨_, _, ⟨T5, L5, k5, n5⟩, -, X5, ⟨Lc5, hQ5, l5, y5, z5⟩, st5⟩ := Jvm.LawKit.callS X0 hx (y := (⟨"com/example/olm/olm/db/ParenthesesReadPinLaw", "delta", "(I)I"⟩ : MethodName)) hown (mvT hZ (hw _ (List.mem_of_getElem? (i := 16) rfl))) (mvT hZ (hw _ (List.mem_of_getElem? (i := 17) rfl))) (mvT hZ (hw _ (List.mem_of_getElem? (i := 18) rfl))) (mvT hZ (hw _ (List.mem_of_getElem? (i := 19) rfl))) (by decide) (backOf (W := 1) (rm4 l Z a0 hw [] i0  h0 n0 Z0) hZ (hw _ (List.mem_of_getElem? (i := 19) rfl)) (hw _ (List.mem_of_getElem? (i := 18) rfl)) (by decide) (by decide)) (g := (mkF m 30 #[.val (.int i0), s1, s2, s3, .val (.ref o4), .val (.int i5), .val (.int i6), .val (.int i7), s8] [(.int i0), (.int i6)])) rfl (by rw [hml]; rfl) (argsL := [(.int i0)]) (rest := [(.int i6)]) (lenOf pd_0_2 rfl) rfl (by show 2 * 0 + _ ≤ _; exact Nat.le_of_eq rfl) (hb hby at_30) (fun _ _ => ⟨rfl, e0, (by decide : 1 + 0 ≤ _), (by decide : 1 + 0 ≤ _)⟩)
  dsimp only [Pt.U, Pt.locs, Pt.cells, Pt.slots] at X5 l5 y5 z5 st5 hQ5
  subst l5 y5 z5
  obtain ⟨rfl, N5q, e5⟩ := hQ5      -- what it returned, that it wrote nothing old, and the rest of your Q4
  have N5 := Fr.app N0 N5q
  obtain ⟨_, _, ⟨T6, L6, k6, n6⟩, -, X6, ⟨Lc6, hQ6, l6, y6, z6⟩, st6⟩ := Jvm.LawKit.callS X5 hx (y := (⟨"com/example/olm/olm/db/ParenthesesReadPinLaw", "draw", "(I)C"⟩ : MethodName)) hown (mvT hZ (hw _ (List.mem_of_getElem? (i := 20) rfl))) (mvT hZ (hw _ (List.mem_of_getElem? (i := 21) rfl))) (mvT hZ (hw _ (List.mem_of_getElem? (i := 18) rfl))) (mvT hZ (hw _ (List.mem_of_getElem? (i := 22) rfl))) (by decide) (backOf (W := 1) (rm5 l Z a0 hw [] i0  T5.heap n0 (by rw [e5]; exact Z0)) hZ (hw _ (List.mem_of_getElem? (i := 22) rfl)) (hw _ (List.mem_of_getElem? (i := 18) rfl)) (by decide) (by decide)) (g := (mkF m 39 #[.val (.int i0), s1, s2, s3, .val (.ref o4), .val (.int i5), .val (.int (i6 + (own_delta i0))), .val (.int i7), s8] [(.int i0), (.ref o4)])) rfl (by rw [hml]; rfl) (argsL := [(.int i0)]) (rest := [(.ref o4)]) (lenOf pd_0_3 rfl) rfl (by show 2 * 0 + _ ≤ _; exact Nat.le_of_eq rfl) (hb hby at_39) (fun _ _ => ⟨rfl, rfl, (by decide : 1 + 0 ≤ _), (by decide : 1 + 0 ≤ _)⟩)
  dsimp only [Pt.U, Pt.locs, Pt.cells, Pt.slots] at X6 l6 y6 z6 st6 hQ6
  subst l6 y6 z6
  obtain ⟨rfl, N6q, e6⟩ := hQ6      -- what it returned, that it wrote nothing old, and the rest of your Q5
  have N6 := Fr.app N5 N6q
  have Z6 : n0 ≤ T6.heap.size := by rw [e6, e5]; exact Z0
  have F6 : Fld Z T6.heap o4 "com/example/olm/olm/db/Parentheses" "depth" "I" (.int i6) := by rw [e6, e5]; exact F_d
  have Ex6 : Exa Z T6.heap o4 "com/example/olm/olm/db/Parentheses" := by rw [e6, e5]; exact E_o4
  obtain ⟨cq7, kq7, q7a, q7b, q7c⟩ := isOf hZ rfl ((E_o4.keep (own_keep_eq (ws := []) e5)).keep (own_keep_eq (ws := []) e6))
  obtain ⟨_, _, ⟨T7, L7, k7, n7⟩, -, X7, ⟨Lc7, hQ7, l7, y7, z7⟩, st7⟩ := X6.virtualBack hx (y := (⟨"com/example/olm/olm/db/Parentheses", "read", "(C)Z"⟩ : MethodName)) (z := (⟨"com/example/olm/olm/db/Parentheses", "read", "(C)Z"⟩ : MethodName)) hown (mvT hZ (hw _ (List.mem_of_getElem? (i := 23) rfl))) (mvT hZ (hw _ (List.mem_of_getElem? (i := 24) rfl))) (notFace_of_selects (args := #[]) (mvT hZ (hw _ (List.mem_of_getElem? (i := 26) rfl)))) (mvT hZ (hw _ (List.mem_of_getElem? (i := 26) rfl))) (mvT hZ (hw _ (List.mem_of_getElem? (i := 25) rfl))) (by decide) (backOf (W := 0) (rm6 l Z a0 hw [] o4 (own_draw i0) i6 T6.heap n0 Z6 F6 Ex6 g_o4) hZ (hw _ (List.mem_of_getElem? (i := 27) rfl)) (hw _ (List.mem_of_getElem? (i := 2) rfl)) (by decide) (by decide)) q7a q7c (g := (mkF m 42 #[.val (.int i0), s1, s2, s3, .val (.ref o4), .val (.int i5), .val (.int (i6 + (own_delta i0))), .val (.int i7), s8] [(.int (own_draw i0)), (.ref o4)])) rfl (by rw [hml]; rfl) (Steps.refl _) (argsL := [(.int (own_draw i0))]) (rest := []) (lenOf pd_0_4 rfl) rfl (by show 2 * 0 + _ ≤ _; exact Nat.le_of_eq rfl) (hb hby at_42) (fun _ _ => ⟨rfl, rfl, (by decide : 1 + 0 ≤ _), (by decide : 1 + 0 ≤ _)⟩)
  dsimp only [Pt.U, Pt.locs, Pt.cells, Pt.slots] at X7 l7 y7 z7 st7 hQ7
  subst l7 y7 z7
  obtain ⟨rfl, N7q, K7, Ex7, F7⟩ := hQ7      -- what it returned, that it wrote nothing old, and the rest of your Q6
  have N7 := Fr.app N6 N7q
  have F7' : Fld Z T7.heap o4 "com/example/olm/olm/db/Parentheses" "depth" "I" (.int (i6 + own_delta i0)) := own_meet i0 i6 ▸ F7
  obtain ⟨cq8, kq8, q8a, q8b, q8c⟩ := isOf hZ rfl (((E_o4.keep (own_keep_eq (ws := []) e5)).keep (own_keep_eq (ws := []) e6)).keep K7)
  obtain ⟨_, _, ⟨T8, L8, k8, n8⟩, -, X8, ⟨Lc8, hQ8, l8, y8, z8⟩, st8⟩ := X7.virtualBack hx (y := (⟨"com/example/olm/olm/db/Parentheses", "isClosed", "()Z"⟩ : MethodName)) (z := (⟨"com/example/olm/olm/db/Parentheses", "isClosed", "()Z"⟩ : MethodName)) hown (mvT hZ (hw _ (List.mem_of_getElem? (i := 9) rfl))) (mvT hZ (hw _ (List.mem_of_getElem? (i := 10) rfl))) (notFace_of_selects (args := #[]) (mvT hZ (hw _ (List.mem_of_getElem? (i := 12) rfl)))) (mvT hZ (hw _ (List.mem_of_getElem? (i := 12) rfl))) (mvT hZ (hw _ (List.mem_of_getElem? (i := 11) rfl))) (by decide) (backOf (W := 0) (rm3 l Z a0 hw [] o4 (i6 + own_delta i0) T7.heap n0 (Nat.le_trans Z6 K7.1) F7') hZ (hw _ (List.mem_of_getElem? (i := 13) rfl)) (hw _ (List.mem_of_getElem? (i := 2) rfl)) (by decide) (by decide)) q8a q8c (g := (mkF m 69 #[.val (.int i0), s1, s2, s3, .val (.ref o4), .val (.int i5), .val (.int (i6 + (own_delta i0))), .val (.int i7), .val (.int (own_sel (if_icmp.holds .lt (own_read (own_draw i0) i6) (0 : Int32)) (0 : Int32) (1 : Int32)))] [(.ref o4)])) rfl (by rw [hml]; rfl) (Steps.refl _) (argsL := []) (rest := []) (lenOf pd_0_1 rfl) rfl (by show 2 * 0 + _ ≤ _; exact Nat.le_of_eq rfl) (hb hby at_69) (fun _ _ => ⟨rfl, rfl, (by decide : 1 + 0 ≤ _), (by decide : 1 + 0 ≤ _)⟩)
  dsimp only [Pt.U, Pt.locs, Pt.cells, Pt.slots] at X8 l8 y8 z8 st8 hQ8
  subst l8 y8 z8
  obtain ⟨rfl, N8q, e8⟩ := hQ8      -- what it returned, that it wrote nothing old, and the rest of your Q3
  have N8 := Fr.app N7 N8q
  refine ⟨T8, _, _, X8, rfl, N8, (by rw [e8]; exact Nat.le_trans Z6 K7.1), e8.symm ▸ Ex7, e8.symm ▸ F7', fun target kt => ?_⟩
  show Steps p.tables e below (T0.setTop (mkF m 22 #[.val (.int i0), s1, s2, s3, .val (.ref o4), .val (.int i5), .val (.int i6), .val (.int i7), s8] [])) _
  refine XS.iload X0.here hx rfl (hb hby at_22) rfl ?_
  show Steps p.tables e below (T0.setTop (mkF m 24 #[.val (.int i0), s1, s2, s3, .val (.ref o4), .val (.int i5), .val (.int i6), .val (.int i7), s8] [(.int i7)])) _
  refine XS.ifNo X0.here hx rfl (hb hby at_24) rfl ((if0 _ _).trans (feq hc24).1) ?_
  show Steps p.tables e below (T0.setTop (mkF m 27 #[.val (.int i0), s1, s2, s3, .val (.ref o4), .val (.int i5), .val (.int i6), .val (.int i7), s8] [])) _
  refine XS.iload X0.here hx rfl (hb hby at_27) rfl ?_
  show Steps p.tables e below (T0.setTop (mkF m 29 #[.val (.int i0), s1, s2, s3, .val (.ref o4), .val (.int i5), .val (.int i6), .val (.int i7), s8] [(.int i6)])) _
  refine XS.iloadN X0.here hx rfl (hb hby at_29) rfl ?_
  show Steps p.tables e below (T0.setTop (mkF m 30 #[.val (.int i0), s1, s2, s3, .val (.ref o4), .val (.int i5), .val (.int i6), .val (.int i7), s8] [(.int i0), (.int i6)])) _
  refine st5 _ ?_
  show Steps p.tables e below (T5.setTop (mkF m 33 #[.val (.int i0), s1, s2, s3, .val (.ref o4), .val (.int i5), .val (.int i6), .val (.int i7), s8] [(.int (own_delta i0)), (.int i6)])) _
  refine XS.iadd X5.here hx rfl (hb hby at_33) rfl ?_
  show Steps p.tables e below (T5.setTop (mkF m 34 #[.val (.int i0), s1, s2, s3, .val (.ref o4), .val (.int i5), .val (.int i6), .val (.int i7), s8] [(.int (i6 + (own_delta i0)))])) _
  refine XS.istore X5.here hx rfl (hb hby at_34) rfl (l' := #[.val (.int i0), s1, s2, s3, .val (.ref o4), .val (.int i5), .val (.int (i6 + (own_delta i0))), .val (.int i7), s8]) rfl ?_
  show Steps p.tables e below (T5.setTop (mkF m 36 #[.val (.int i0), s1, s2, s3, .val (.ref o4), .val (.int i5), .val (.int (i6 + (own_delta i0))), .val (.int i7), s8] [])) _
  refine XS.aload X5.here hx rfl (hb hby at_36) rfl rfl ?_
  show Steps p.tables e below (T5.setTop (mkF m 38 #[.val (.int i0), s1, s2, s3, .val (.ref o4), .val (.int i5), .val (.int (i6 + (own_delta i0))), .val (.int i7), s8] [(.ref o4)])) _
  refine XS.iloadN X5.here hx rfl (hb hby at_38) rfl ?_
  show Steps p.tables e below (T5.setTop (mkF m 39 #[.val (.int i0), s1, s2, s3, .val (.ref o4), .val (.int i5), .val (.int (i6 + (own_delta i0))), .val (.int i7), s8] [(.int i0), (.ref o4)])) _
  refine st6 _ ?_
  show Steps p.tables e below (T6.setTop (mkF m 42 #[.val (.int i0), s1, s2, s3, .val (.ref o4), .val (.int i5), .val (.int (i6 + (own_delta i0))), .val (.int i7), s8] [(.int (own_draw i0)), (.ref o4)])) _
  refine st7.trans ?_
  show Steps p.tables e below (T7.setTop (mkF m 45 #[.val (.int i0), s1, s2, s3, .val (.ref o4), .val (.int i5), .val (.int (i6 + (own_delta i0))), .val (.int i7), s8] [(.int (own_sel (if_icmp.holds .lt (own_read (own_draw i0) i6) (0 : Int32)) (0 : Int32) (1 : Int32)))])) _
  refine XS.istore X7.here hx rfl (hb hby at_45) rfl (l' := #[.val (.int i0), s1, s2, s3, .val (.ref o4), .val (.int i5), .val (.int (i6 + (own_delta i0))), .val (.int i7), .val (.int (own_sel (if_icmp.holds .lt (own_read (own_draw i0) i6) (0 : Int32)) (0 : Int32) (1 : Int32)))]) (os0_45 hs8) ?_
  show Steps p.tables e below (T7.setTop (mkF m 47 #[.val (.int i0), s1, s2, s3, .val (.ref o4), .val (.int i5), .val (.int (i6 + (own_delta i0))), .val (.int i7), .val (.int (own_sel (if_icmp.holds .lt (own_read (own_draw i0) i6) (0 : Int32)) (0 : Int32) (1 : Int32)))] [])) _
  refine XS.iload X7.here hx rfl (hb hby at_47) rfl ?_
  show Steps p.tables e below (T7.setTop (mkF m 49 #[.val (.int i0), s1, s2, s3, .val (.ref o4), .val (.int i5), .val (.int (i6 + (own_delta i0))), .val (.int i7), .val (.int (own_sel (if_icmp.holds .lt (own_read (own_draw i0) i6) (0 : Int32)) (0 : Int32) (1 : Int32)))] [(.int i5)])) _
  refine XS.ifNo X7.here hx rfl (hb hby at_49) rfl ((if0 _ _).trans (feq hc49).1) ?_
  show Steps p.tables e below (T7.setTop (mkF m 52 #[.val (.int i0), s1, s2, s3, .val (.ref o4), .val (.int i5), .val (.int (i6 + (own_delta i0))), .val (.int i7), .val (.int (own_sel (if_icmp.holds .lt (own_read (own_draw i0) i6) (0 : Int32)) (0 : Int32) (1 : Int32)))] [])) _
  refine XS.iload X7.here hx rfl (hb hby at_52) rfl ?_
  show Steps p.tables e below (T7.setTop (mkF m 54 #[.val (.int i0), s1, s2, s3, .val (.ref o4), .val (.int i5), .val (.int (i6 + (own_delta i0))), .val (.int i7), .val (.int (own_sel (if_icmp.holds .lt (own_read (own_draw i0) i6) (0 : Int32)) (0 : Int32) (1 : Int32)))] [(.int (own_sel (if_icmp.holds .lt (own_read (own_draw i0) i6) (0 : Int32)) (0 : Int32) (1 : Int32)))])) _
  refine XS.iload X7.here hx rfl (hb hby at_54) rfl ?_
  show Steps p.tables e below (T7.setTop (mkF m 56 #[.val (.int i0), s1, s2, s3, .val (.ref o4), .val (.int i5), .val (.int (i6 + (own_delta i0))), .val (.int i7), .val (.int (own_sel (if_icmp.holds .lt (own_read (own_draw i0) i6) (0 : Int32)) (0 : Int32) (1 : Int32)))] [(.int (i6 + (own_delta i0))), (.int (own_sel (if_icmp.holds .lt (own_read (own_draw i0) i6) (0 : Int32)) (0 : Int32) (1 : Int32)))])) _
  refine own_bif X7.here hx rfl (pc0 := 56) rfl (hb hby at_56) (hb hby at_59) (hb hby at_60) (hb hby at_63) rfl ?_
  show Steps p.tables e below (T7.setTop (mkF m 64 #[.val (.int i0), s1, s2, s3, .val (.ref o4), .val (.int i5), .val (.int (i6 + (own_delta i0))), .val (.int i7), .val (.int (own_sel (if_icmp.holds .lt (own_read (own_draw i0) i6) (0 : Int32)) (0 : Int32) (1 : Int32)))] [(.int (own_sel (if_icmp.holds .lt (i6 + (own_delta i0)) (0 : Int32)) (0 : Int32) (1 : Int32))), (.int (own_sel (if_icmp.holds .lt (own_read (own_draw i0) i6) (0 : Int32)) (0 : Int32) (1 : Int32)))])) _
  refine XS.icmpNo X7.here hx rfl (hb hby at_64) rfl (teq (by rw [own_meet] : (own_sel (if_icmp.holds .lt (own_read (own_draw i0) i6) (0 : Int32)) (0 : Int32) (1 : Int32)) = (own_sel (if_icmp.holds .lt (i6 + (own_delta i0)) (0 : Int32)) (0 : Int32) (1 : Int32)))).2 ?_
  show Steps p.tables e below (T7.setTop (mkF m 67 #[.val (.int i0), s1, s2, s3, .val (.ref o4), .val (.int i5), .val (.int (i6 + (own_delta i0))), .val (.int i7), .val (.int (own_sel (if_icmp.holds .lt (own_read (own_draw i0) i6) (0 : Int32)) (0 : Int32) (1 : Int32)))] [])) _
  refine XS.aload X7.here hx rfl (hb hby at_67) rfl rfl ?_
  show Steps p.tables e below (T7.setTop (mkF m 69 #[.val (.int i0), s1, s2, s3, .val (.ref o4), .val (.int i5), .val (.int (i6 + (own_delta i0))), .val (.int i7), .val (.int (own_sel (if_icmp.holds .lt (own_read (own_draw i0) i6) (0 : Int32)) (0 : Int32) (1 : Int32)))] [(.ref o4)])) _
  refine st8.trans ?_
  show Steps p.tables e below (T8.setTop (mkF m 72 #[.val (.int i0), s1, s2, s3, .val (.ref o4), .val (.int i5), .val (.int (i6 + (own_delta i0))), .val (.int i7), .val (.int (own_sel (if_icmp.holds .lt (own_read (own_draw i0) i6) (0 : Int32)) (0 : Int32) (1 : Int32)))] [(.int (own_sel (if_icmp.holds .ne (i6 + own_delta i0) (0 : Int32)) (0 : Int32) (1 : Int32)))])) _
  refine XS.iload X8.here hx rfl (hb hby at_72) rfl ?_
  show Steps p.tables e below (T8.setTop (mkF m 74 #[.val (.int i0), s1, s2, s3, .val (.ref o4), .val (.int i5), .val (.int (i6 + (own_delta i0))), .val (.int i7), .val (.int (own_sel (if_icmp.holds .lt (own_read (own_draw i0) i6) (0 : Int32)) (0 : Int32) (1 : Int32)))] [(.int (i6 + (own_delta i0))), (.int (own_sel (if_icmp.holds .ne (i6 + own_delta i0) (0 : Int32)) (0 : Int32) (1 : Int32)))])) _
  refine own_bif X8.here hx rfl (pc0 := 74) rfl (hb hby at_74) (hb hby at_77) (hb hby at_78) (hb hby at_81) rfl ?_
  show Steps p.tables e below (T8.setTop (mkF m 82 #[.val (.int i0), s1, s2, s3, .val (.ref o4), .val (.int i5), .val (.int (i6 + (own_delta i0))), .val (.int i7), .val (.int (own_sel (if_icmp.holds .lt (own_read (own_draw i0) i6) (0 : Int32)) (0 : Int32) (1 : Int32)))] [(.int (own_sel (if_icmp.holds .ne (i6 + (own_delta i0)) (0 : Int32)) (0 : Int32) (1 : Int32))), (.int (own_sel (if_icmp.holds .ne (i6 + own_delta i0) (0 : Int32)) (0 : Int32) (1 : Int32)))])) _
  refine XS.icmpNo X8.here hx rfl (hb hby at_82) rfl (teq (rfl : (own_sel (if_icmp.holds .ne (i6 + own_delta i0) (0 : Int32)) (0 : Int32) (1 : Int32)) = (own_sel (if_icmp.holds .ne (i6 + (own_delta i0)) (0 : Int32)) (0 : Int32) (1 : Int32)))).2 ?_
  show Steps p.tables e below (T8.setTop (mkF m 85 #[.val (.int i0), s1, s2, s3, .val (.ref o4), .val (.int i5), .val (.int (i6 + (own_delta i0))), .val (.int i7), .val (.int (own_sel (if_icmp.holds .lt (own_read (own_draw i0) i6) (0 : Int32)) (0 : Int32) (1 : Int32)))] [])) _
  refine XS.iconst X8.here hx rfl (hb hby at_85) ?_
  show Steps p.tables e below (T8.setTop (mkF m 86 #[.val (.int i0), s1, s2, s3, .val (.ref o4), .val (.int i5), .val (.int (i6 + (own_delta i0))), .val (.int i7), .val (.int (own_sel (if_icmp.holds .lt (own_read (own_draw i0) i6) (0 : Int32)) (0 : Int32) (1 : Int32)))] [(.int (1 : Int32))])) _
  refine XS.goto X8.here hx rfl (pc0 := 86) (pc' := 90) rfl (hb hby at_86) (by decide) (by decide) ?_
  show Steps p.tables e below (T8.setTop (mkF m 90 #[.val (.int i0), s1, s2, s3, .val (.ref o4), .val (.int i5), .val (.int (i6 + (own_delta i0))), .val (.int i7), .val (.int (own_sel (if_icmp.holds .lt (own_read (own_draw i0) i6) (0 : Int32)) (0 : Int32) (1 : Int32)))] [(.int (1 : Int32))])) _
  refine XS.istore X8.here hx rfl (hb hby at_90) rfl (l' := #[.val (.int i0), s1, s2, s3, .val (.ref o4), .val (.int (1 : Int32)), .val (.int (i6 + (own_delta i0))), .val (.int i7), .val (.int (own_sel (if_icmp.holds .lt (own_read (own_draw i0) i6) (0 : Int32)) (0 : Int32) (1 : Int32)))]) rfl ?_
  show Steps p.tables e below (T8.setTop (mkF m 92 #[.val (.int i0), s1, s2, s3, .val (.ref o4), .val (.int (1 : Int32)), .val (.int (i6 + (own_delta i0))), .val (.int i7), .val (.int (own_sel (if_icmp.holds .lt (own_read (own_draw i0) i6) (0 : Int32)) (0 : Int32) (1 : Int32)))] [])) _
  refine XS.iload X8.here hx rfl (hb hby at_92) rfl ?_
  show Steps p.tables e below (T8.setTop (mkF m 94 #[.val (.int i0), s1, s2, s3, .val (.ref o4), .val (.int (1 : Int32)), .val (.int (i6 + (own_delta i0))), .val (.int i7), .val (.int (own_sel (if_icmp.holds .lt (own_read (own_draw i0) i6) (0 : Int32)) (0 : Int32) (1 : Int32)))] [(.int (i6 + (own_delta i0)))])) _
  refine own_bif X8.here hx rfl (pc0 := 94) rfl (hb hby at_94) (hb hby at_97) (hb hby at_98) (hb hby at_101) rfl ?_
  show Steps p.tables e below (T8.setTop (mkF m 102 #[.val (.int i0), s1, s2, s3, .val (.ref o4), .val (.int (1 : Int32)), .val (.int (i6 + (own_delta i0))), .val (.int i7), .val (.int (own_sel (if_icmp.holds .lt (own_read (own_draw i0) i6) (0 : Int32)) (0 : Int32) (1 : Int32)))] [(.int (own_sel (if_icmp.holds .lt (i6 + (own_delta i0)) (0 : Int32)) (0 : Int32) (1 : Int32)))])) _
  refine XS.istore X8.here hx rfl (hb hby at_102) rfl (l' := #[.val (.int i0), s1, s2, s3, .val (.ref o4), .val (.int (1 : Int32)), .val (.int (i6 + (own_delta i0))), .val (.int (own_sel (if_icmp.holds .lt (i6 + (own_delta i0)) (0 : Int32)) (0 : Int32) (1 : Int32))), .val (.int (own_sel (if_icmp.holds .lt (own_read (own_draw i0) i6) (0 : Int32)) (0 : Int32) (1 : Int32)))]) rfl ?_
  exact kt

set_option maxRecDepth 65536 in
set_option maxHeartbeats 40000000 in
theorem tx0_22_104 {p : Program} {l : Launch} {e : Env} {R : Room} {s : State} {m : MethodId} {args : Array Value} {below : List Frame} {meth : Method} {c : Code} {T0 : State} {locs : List Loc} {cells slots : Nat} {Z : State} {a0 : Array Value} {h0 : Heap} (s0 : Slot) (s1 : Slot) (s2 : Slot) (s3 : Slot) (s4 : Slot) (s5 : Slot) (s6 : Slot) (i7 : Int32) (s8 : Slot)
    (X0 : Stand p l e R s m args below meth c T0 locs cells slots) (hx : p.tables.exec = Jvm.exec) (hZ : Z.Warmed39 s.vm) (hw : ∀ d ∈ tables_1, d.before a0 Z = true) (hby : c.code = code) (hml : c.maxLocals = 9) (hown : s.vm.findClass "com/example/olm/olm/db/ParenthesesReadPinLaw" = some m.cls) (e0 : T0.heap = h0) (hc24 : i7 = (0 : Int32)) :
    ∃ (T' : State), Stand p l e R s m args below meth c T' locs cells slots ∧ T'.heap = h0 ∧
      ∀ target, Steps p.tables e below (T'.setTop (mkF m 104 #[s0, s1, s2, s3, s4, s5, s6, .val (.int i7), s8] [])) target → Steps p.tables e below (T0.setTop (mkF m 22 #[s0, s1, s2, s3, s4, s5, s6, .val (.int i7), s8] [])) target := by

  refine ⟨T0, X0, e0, fun target kt => ?_⟩
  show Steps p.tables e below (T0.setTop (mkF m 22 #[s0, s1, s2, s3, s4, s5, s6, .val (.int i7), s8] [])) _
  refine XS.iload X0.here hx rfl (hb hby at_22) rfl ?_
  show Steps p.tables e below (T0.setTop (mkF m 24 #[s0, s1, s2, s3, s4, s5, s6, .val (.int i7), s8] [(.int i7)])) _
  refine XS.ifYes X0.here hx rfl (pc0 := 24) (pc' := 104) rfl (hb hby at_24) rfl ((if0 _ _).trans (teq hc24).1) (by decide) (by decide) ?_
  exact kt

theorem blk_22 {p : Program} {l : Launch} {e : Env} {s : State} {m : MethodId} {args : Array Value} {below : List Frame} {meth : Method} {c : Code} {T0 : State} {locs : List Loc} {Z : State} {a0 : Array Value} {h0 : Heap} (p1 p2 p3 p4 : Int32) (o4 : Addr) (d b : Int32) (s8 : Slot) (n0 : Nat)
    (X0 : Stand p l e room_1 s m args below meth c T0 locs 1 1) (hx : p.tables.exec = Jvm.exec) (hZ : Z.Warmed39 s.vm) (hw : ∀ d ∈ tables_1, d.before a0 Z = true) (hby : c.code = code) (hml : c.maxLocals = 9) (hown : s.vm.findClass "com/example/olm/olm/db/ParenthesesReadPinLaw" = some m.cls) (e0 : T0.heap = h0) (Z0 : n0 ≤ h0.size) (N0 : Fr n0 locs) (g_o4 : n0 ≤ o4) (F_d : Fld Z h0 o4 "com/example/olm/olm/db/Parentheses" "depth" "I" (.int d)) (E_o4 : Exa Z h0 o4 "com/example/olm/olm/db/Parentheses") (hs8 : One s8) :
    ∃ (T' : State) (h' : Heap) (locs' : List Loc) (d' b' : Int32) (s8' : Slot), Stand p l e room_1 s m args below meth c T' locs' 1 1 ∧ T'.heap = h' ∧ Fr n0 locs' ∧ n0 ≤ h'.size ∧ Exa Z h' o4 "com/example/olm/olm/db/Parentheses" ∧ Fld Z h' o4 "com/example/olm/olm/db/Parentheses" "depth" "I" (.int d') ∧ One s8' ∧
      ∀ target, Steps p.tables e below (T'.setTop (mkF m 104 #[.val (.int p1), .val (.int p2), .val (.int p3), .val (.int p4), .val (.ref o4), .val (.int (1 : Int32)), .val (.int d'), .val (.int b'), s8'] [])) target → Steps p.tables e below (T0.setTop (mkF m 22 #[.val (.int p1), .val (.int p2), .val (.int p3), .val (.int p4), .val (.ref o4), .val (.int (1 : Int32)), .val (.int d), .val (.int b), s8] [])) target := by
  by_cases hb0 : b = (0 : Int32)
  · obtain ⟨T', X', e', st⟩ := tx0_22_104 (.val (.int p1)) (.val (.int p2)) (.val (.int p3)) (.val (.int p4)) (.val (.ref o4)) (.val (.int (1 : Int32))) (.val (.int d)) b s8 X0 hx hZ hw hby hml hown e0 hb0
    exact ⟨T', h0, locs, d, b, s8, X', e', N0, Z0, E_o4, F_d, hs8, st⟩
  · obtain ⟨T', h', locs', X', e', N', Z', E', F', st⟩ := tn0_22_104 p1 (.val (.int p2)) (.val (.int p3)) (.val (.int p4)) o4 (1 : Int32) d b s8 n0 X0 hx hZ hw hby hml hown e0 Z0 N0 g_o4 F_d E_o4 hs8 hb0 (by decide)
    exact ⟨T', h', locs', _, _, _, X', e', N', Z', E', F', One.val rfl, st⟩
theorem os0_127 {s0 : Slot} {z1 : Value} {s2 : Slot} {s3 : Slot} {z4 : Value} {z5 : Value} {z6 : Value} {z7 : Value} {s8 : Slot} {v : Int32} (h : One s8) : storeLocals #[s0, .val z1, s2, s3, .val z4, .val z5, .val z6, .val z7, s8] 8 (.int v) = some #[s0, .val z1, s2, s3, .val z4, .val z5, .val z6, .val z7, .val (.int v)] := by
  rcases h with rfl | ⟨w, rfl, hw⟩
  · rfl
  · cases w <;> first | rfl | (simp [Value.category] at hw)
set_option maxRecDepth 65536 in
set_option maxHeartbeats 40000000 in
theorem tn0_104_186 {p : Program} {l : Launch} {e : Env} {s : State} {m : MethodId} {args : Array Value} {below : List Frame} {meth : Method} {c : Code} {T0 : State} {locs : List Loc} {Z : State} {a0 : Array Value} {h0 : Heap} (s0 : Slot) (i1 : Int32) (s2 : Slot) (s3 : Slot) (o4 : Addr) (i5 : Int32) (i6 : Int32) (i7 : Int32) (s8 : Slot) (n0 : Nat)
    (X0 : Stand p l e room_1 s m args below meth c T0 locs 1 1) (hx : p.tables.exec = Jvm.exec) (hZ : Z.Warmed39 s.vm) (hw : ∀ d ∈ tables_1, d.before a0 Z = true) (hby : c.code = code) (hml : c.maxLocals = 9) (hown : s.vm.findClass "com/example/olm/olm/db/ParenthesesReadPinLaw" = some m.cls) (e0 : T0.heap = h0) (Z0 : n0 ≤ h0.size) (N0 : Fr n0 locs) (g_o4 : n0 ≤ o4) (F_d : Fld Z h0 o4 "com/example/olm/olm/db/Parentheses" "depth" "I" (.int i6)) (E_o4 : Exa Z h0 o4 "com/example/olm/olm/db/Parentheses") (hs8 : One s8) (hc106 : ¬ (i7 = (0 : Int32))) (hc131 : ¬ (i5 = (0 : Int32))) :
    ∃ (T' : State) (h' : Heap) (locs' : List Loc), Stand p l e room_1 s m args below meth c T' locs' 1 1 ∧ T'.heap = h' ∧ Fr n0 locs' ∧ n0 ≤ h'.size ∧ Exa Z h' o4 "com/example/olm/olm/db/Parentheses" ∧ Fld Z h' o4 "com/example/olm/olm/db/Parentheses" "depth" "I" (.int (i6 + own_delta i1)) ∧
      ∀ target, Steps p.tables e below (T'.setTop (mkF m 186 #[s0, .val (.int i1), s2, s3, .val (.ref o4), .val (.int (1 : Int32)), .val (.int (i6 + (own_delta i1))), .val (.int (own_sel (if_icmp.holds .lt (i6 + (own_delta i1)) (0 : Int32)) (0 : Int32) (1 : Int32))), .val (.int (own_sel (if_icmp.holds .lt (own_read (own_draw i1) i6) (0 : Int32)) (0 : Int32) (1 : Int32)))] [])) target → Steps p.tables e below (T0.setTop (mkF m 104 #[s0, .val (.int i1), s2, s3, .val (.ref o4), .val (.int i5), .val (.int i6), .val (.int i7), s8] [])) target := by
  obtain ⟨_, _, ⟨T5, L5, k5, n5⟩, -, X5, ⟨Lc5, hQ5, l5, y5, z5⟩, st5⟩ := Jvm.LawKit.callS X0 hx (y := (⟨"com/example/olm/olm/db/ParenthesesReadPinLaw", "delta", "(I)I"⟩ : MethodName)) hown (mvT hZ (hw _ (List.mem_of_getElem? (i := 16) rfl))) (mvT hZ (hw _ (List.mem_of_getElem? (i := 17) rfl))) (mvT hZ (hw _ (List.mem_of_getElem? (i := 18) rfl))) (mvT hZ (hw _ (List.mem_of_getElem? (i := 19) rfl))) (by decide) (backOf (W := 1) (rm4 l Z a0 hw [] i1  h0 n0 Z0) hZ (hw _ (List.mem_of_getElem? (i := 19) rfl)) (hw _ (List.mem_of_getElem? (i := 18) rfl)) (by decide) (by decide)) (g := (mkF m 112 #[s0, .val (.int i1), s2, s3, .val (.ref o4), .val (.int i5), .val (.int i6), .val (.int i7), s8] [(.int i1), (.int i6)])) rfl (by rw [hml]; rfl) (argsL := [(.int i1)]) (rest := [(.int i6)]) (lenOf pd_0_2 rfl) rfl (by show 2 * 0 + _ ≤ _; exact Nat.le_of_eq rfl) (hb hby at_112) (fun _ _ => ⟨rfl, e0, (by decide : 1 + 0 ≤ _), (by decide : 1 + 0 ≤ _)⟩)
  dsimp only [Pt.U, Pt.locs, Pt.cells, Pt.slots] at X5 l5 y5 z5 st5 hQ5
  subst l5 y5 z5
  obtain ⟨rfl, N5q, e5⟩ := hQ5      -- what it returned, that it wrote nothing old, and the rest of your Q4
  have N5 := Fr.app N0 N5q
  obtain ⟨_, _, ⟨T6, L6, k6, n6⟩, -, X6, ⟨Lc6, hQ6, l6, y6, z6⟩, st6⟩ := Jvm.LawKit.callS X5 hx (y := (⟨"com/example/olm/olm/db/ParenthesesReadPinLaw", "draw", "(I)C"⟩ : MethodName)) hown (mvT hZ (hw _ (List.mem_of_getElem? (i := 20) rfl))) (mvT hZ (hw _ (List.mem_of_getElem? (i := 21) rfl))) (mvT hZ (hw _ (List.mem_of_getElem? (i := 18) rfl))) (mvT hZ (hw _ (List.mem_of_getElem? (i := 22) rfl))) (by decide) (backOf (W := 1) (rm5 l Z a0 hw [] i1  T5.heap n0 (by rw [e5]; exact Z0)) hZ (hw _ (List.mem_of_getElem? (i := 22) rfl)) (hw _ (List.mem_of_getElem? (i := 18) rfl)) (by decide) (by decide)) (g := (mkF m 121 #[s0, .val (.int i1), s2, s3, .val (.ref o4), .val (.int i5), .val (.int (i6 + (own_delta i1))), .val (.int i7), s8] [(.int i1), (.ref o4)])) rfl (by rw [hml]; rfl) (argsL := [(.int i1)]) (rest := [(.ref o4)]) (lenOf pd_0_3 rfl) rfl (by show 2 * 0 + _ ≤ _; exact Nat.le_of_eq rfl) (hb hby at_121) (fun _ _ => ⟨rfl, rfl, (by decide : 1 + 0 ≤ _), (by decide : 1 + 0 ≤ _)⟩)
  dsimp only [Pt.U, Pt.locs, Pt.cells, Pt.slots] at X6 l6 y6 z6 st6 hQ6
  subst l6 y6 z6
  obtain ⟨rfl, N6q, e6⟩ := hQ6      -- what it returned, that it wrote nothing old, and the rest of your Q5
  have N6 := Fr.app N5 N6q
  have Z6 : n0 ≤ T6.heap.size := by rw [e6, e5]; exact Z0
  have F6 : Fld Z T6.heap o4 "com/example/olm/olm/db/Parentheses" "depth" "I" (.int i6) := by rw [e6, e5]; exact F_d
  have Ex6 : Exa Z T6.heap o4 "com/example/olm/olm/db/Parentheses" := by rw [e6, e5]; exact E_o4
  obtain ⟨cq7, kq7, q7a, q7b, q7c⟩ := isOf hZ rfl ((E_o4.keep (own_keep_eq (ws := []) e5)).keep (own_keep_eq (ws := []) e6))
  obtain ⟨_, _, ⟨T7, L7, k7, n7⟩, -, X7, ⟨Lc7, hQ7, l7, y7, z7⟩, st7⟩ := X6.virtualBack hx (y := (⟨"com/example/olm/olm/db/Parentheses", "read", "(C)Z"⟩ : MethodName)) (z := (⟨"com/example/olm/olm/db/Parentheses", "read", "(C)Z"⟩ : MethodName)) hown (mvT hZ (hw _ (List.mem_of_getElem? (i := 23) rfl))) (mvT hZ (hw _ (List.mem_of_getElem? (i := 24) rfl))) (notFace_of_selects (args := #[]) (mvT hZ (hw _ (List.mem_of_getElem? (i := 26) rfl)))) (mvT hZ (hw _ (List.mem_of_getElem? (i := 26) rfl))) (mvT hZ (hw _ (List.mem_of_getElem? (i := 25) rfl))) (by decide) (backOf (W := 0) (rm6 l Z a0 hw [] o4 (own_draw i1) i6 T6.heap n0 Z6 F6 Ex6 g_o4) hZ (hw _ (List.mem_of_getElem? (i := 27) rfl)) (hw _ (List.mem_of_getElem? (i := 2) rfl)) (by decide) (by decide)) q7a q7c (g := (mkF m 124 #[s0, .val (.int i1), s2, s3, .val (.ref o4), .val (.int i5), .val (.int (i6 + (own_delta i1))), .val (.int i7), s8] [(.int (own_draw i1)), (.ref o4)])) rfl (by rw [hml]; rfl) (Steps.refl _) (argsL := [(.int (own_draw i1))]) (rest := []) (lenOf pd_0_4 rfl) rfl (by show 2 * 0 + _ ≤ _; exact Nat.le_of_eq rfl) (hb hby at_124) (fun _ _ => ⟨rfl, rfl, (by decide : 1 + 0 ≤ _), (by decide : 1 + 0 ≤ _)⟩)
  dsimp only [Pt.U, Pt.locs, Pt.cells, Pt.slots] at X7 l7 y7 z7 st7 hQ7
  subst l7 y7 z7
  obtain ⟨rfl, N7q, K7, Ex7, F7⟩ := hQ7      -- what it returned, that it wrote nothing old, and the rest of your Q6
  have N7 := Fr.app N6 N7q
  have F7' : Fld Z T7.heap o4 "com/example/olm/olm/db/Parentheses" "depth" "I" (.int (i6 + own_delta i1)) := own_meet i1 i6 ▸ F7
  obtain ⟨cq8, kq8, q8a, q8b, q8c⟩ := isOf hZ rfl (((E_o4.keep (own_keep_eq (ws := []) e5)).keep (own_keep_eq (ws := []) e6)).keep K7)
  obtain ⟨_, _, ⟨T8, L8, k8, n8⟩, -, X8, ⟨Lc8, hQ8, l8, y8, z8⟩, st8⟩ := X7.virtualBack hx (y := (⟨"com/example/olm/olm/db/Parentheses", "isClosed", "()Z"⟩ : MethodName)) (z := (⟨"com/example/olm/olm/db/Parentheses", "isClosed", "()Z"⟩ : MethodName)) hown (mvT hZ (hw _ (List.mem_of_getElem? (i := 9) rfl))) (mvT hZ (hw _ (List.mem_of_getElem? (i := 10) rfl))) (notFace_of_selects (args := #[]) (mvT hZ (hw _ (List.mem_of_getElem? (i := 12) rfl)))) (mvT hZ (hw _ (List.mem_of_getElem? (i := 12) rfl))) (mvT hZ (hw _ (List.mem_of_getElem? (i := 11) rfl))) (by decide) (backOf (W := 0) (rm3 l Z a0 hw [] o4 (i6 + own_delta i1) T7.heap n0 (Nat.le_trans Z6 K7.1) F7') hZ (hw _ (List.mem_of_getElem? (i := 13) rfl)) (hw _ (List.mem_of_getElem? (i := 2) rfl)) (by decide) (by decide)) q8a q8c (g := (mkF m 151 #[s0, .val (.int i1), s2, s3, .val (.ref o4), .val (.int i5), .val (.int (i6 + (own_delta i1))), .val (.int i7), .val (.int (own_sel (if_icmp.holds .lt (own_read (own_draw i1) i6) (0 : Int32)) (0 : Int32) (1 : Int32)))] [(.ref o4)])) rfl (by rw [hml]; rfl) (Steps.refl _) (argsL := []) (rest := []) (lenOf pd_0_1 rfl) rfl (by show 2 * 0 + _ ≤ _; exact Nat.le_of_eq rfl) (hb hby at_151) (fun _ _ => ⟨rfl, rfl, (by decide : 1 + 0 ≤ _), (by decide : 1 + 0 ≤ _)⟩)
  dsimp only [Pt.U, Pt.locs, Pt.cells, Pt.slots] at X8 l8 y8 z8 st8 hQ8
  subst l8 y8 z8
  obtain ⟨rfl, N8q, e8⟩ := hQ8      -- what it returned, that it wrote nothing old, and the rest of your Q3
  have N8 := Fr.app N7 N8q
  refine ⟨T8, _, _, X8, rfl, N8, (by rw [e8]; exact Nat.le_trans Z6 K7.1), e8.symm ▸ Ex7, e8.symm ▸ F7', fun target kt => ?_⟩
  show Steps p.tables e below (T0.setTop (mkF m 104 #[s0, .val (.int i1), s2, s3, .val (.ref o4), .val (.int i5), .val (.int i6), .val (.int i7), s8] [])) _
  refine XS.iload X0.here hx rfl (hb hby at_104) rfl ?_
  show Steps p.tables e below (T0.setTop (mkF m 106 #[s0, .val (.int i1), s2, s3, .val (.ref o4), .val (.int i5), .val (.int i6), .val (.int i7), s8] [(.int i7)])) _
  refine XS.ifNo X0.here hx rfl (hb hby at_106) rfl ((if0 _ _).trans (feq hc106).1) ?_
  show Steps p.tables e below (T0.setTop (mkF m 109 #[s0, .val (.int i1), s2, s3, .val (.ref o4), .val (.int i5), .val (.int i6), .val (.int i7), s8] [])) _
  refine XS.iload X0.here hx rfl (hb hby at_109) rfl ?_
  show Steps p.tables e below (T0.setTop (mkF m 111 #[s0, .val (.int i1), s2, s3, .val (.ref o4), .val (.int i5), .val (.int i6), .val (.int i7), s8] [(.int i6)])) _
  refine XS.iloadN X0.here hx rfl (hb hby at_111) rfl ?_
  show Steps p.tables e below (T0.setTop (mkF m 112 #[s0, .val (.int i1), s2, s3, .val (.ref o4), .val (.int i5), .val (.int i6), .val (.int i7), s8] [(.int i1), (.int i6)])) _
  refine st5 _ ?_
  show Steps p.tables e below (T5.setTop (mkF m 115 #[s0, .val (.int i1), s2, s3, .val (.ref o4), .val (.int i5), .val (.int i6), .val (.int i7), s8] [(.int (own_delta i1)), (.int i6)])) _
  refine XS.iadd X5.here hx rfl (hb hby at_115) rfl ?_
  show Steps p.tables e below (T5.setTop (mkF m 116 #[s0, .val (.int i1), s2, s3, .val (.ref o4), .val (.int i5), .val (.int i6), .val (.int i7), s8] [(.int (i6 + (own_delta i1)))])) _
  refine XS.istore X5.here hx rfl (hb hby at_116) rfl (l' := #[s0, .val (.int i1), s2, s3, .val (.ref o4), .val (.int i5), .val (.int (i6 + (own_delta i1))), .val (.int i7), s8]) rfl ?_
  show Steps p.tables e below (T5.setTop (mkF m 118 #[s0, .val (.int i1), s2, s3, .val (.ref o4), .val (.int i5), .val (.int (i6 + (own_delta i1))), .val (.int i7), s8] [])) _
  refine XS.aload X5.here hx rfl (hb hby at_118) rfl rfl ?_
  show Steps p.tables e below (T5.setTop (mkF m 120 #[s0, .val (.int i1), s2, s3, .val (.ref o4), .val (.int i5), .val (.int (i6 + (own_delta i1))), .val (.int i7), s8] [(.ref o4)])) _
  refine XS.iloadN X5.here hx rfl (hb hby at_120) rfl ?_
  show Steps p.tables e below (T5.setTop (mkF m 121 #[s0, .val (.int i1), s2, s3, .val (.ref o4), .val (.int i5), .val (.int (i6 + (own_delta i1))), .val (.int i7), s8] [(.int i1), (.ref o4)])) _
  refine st6 _ ?_
  show Steps p.tables e below (T6.setTop (mkF m 124 #[s0, .val (.int i1), s2, s3, .val (.ref o4), .val (.int i5), .val (.int (i6 + (own_delta i1))), .val (.int i7), s8] [(.int (own_draw i1)), (.ref o4)])) _
  refine st7.trans ?_
  show Steps p.tables e below (T7.setTop (mkF m 127 #[s0, .val (.int i1), s2, s3, .val (.ref o4), .val (.int i5), .val (.int (i6 + (own_delta i1))), .val (.int i7), s8] [(.int (own_sel (if_icmp.holds .lt (own_read (own_draw i1) i6) (0 : Int32)) (0 : Int32) (1 : Int32)))])) _
  refine XS.istore X7.here hx rfl (hb hby at_127) rfl (l' := #[s0, .val (.int i1), s2, s3, .val (.ref o4), .val (.int i5), .val (.int (i6 + (own_delta i1))), .val (.int i7), .val (.int (own_sel (if_icmp.holds .lt (own_read (own_draw i1) i6) (0 : Int32)) (0 : Int32) (1 : Int32)))]) (os0_127 hs8) ?_
  show Steps p.tables e below (T7.setTop (mkF m 129 #[s0, .val (.int i1), s2, s3, .val (.ref o4), .val (.int i5), .val (.int (i6 + (own_delta i1))), .val (.int i7), .val (.int (own_sel (if_icmp.holds .lt (own_read (own_draw i1) i6) (0 : Int32)) (0 : Int32) (1 : Int32)))] [])) _
  refine XS.iload X7.here hx rfl (hb hby at_129) rfl ?_
  show Steps p.tables e below (T7.setTop (mkF m 131 #[s0, .val (.int i1), s2, s3, .val (.ref o4), .val (.int i5), .val (.int (i6 + (own_delta i1))), .val (.int i7), .val (.int (own_sel (if_icmp.holds .lt (own_read (own_draw i1) i6) (0 : Int32)) (0 : Int32) (1 : Int32)))] [(.int i5)])) _
  refine XS.ifNo X7.here hx rfl (hb hby at_131) rfl ((if0 _ _).trans (feq hc131).1) ?_
  show Steps p.tables e below (T7.setTop (mkF m 134 #[s0, .val (.int i1), s2, s3, .val (.ref o4), .val (.int i5), .val (.int (i6 + (own_delta i1))), .val (.int i7), .val (.int (own_sel (if_icmp.holds .lt (own_read (own_draw i1) i6) (0 : Int32)) (0 : Int32) (1 : Int32)))] [])) _
  refine XS.iload X7.here hx rfl (hb hby at_134) rfl ?_
  show Steps p.tables e below (T7.setTop (mkF m 136 #[s0, .val (.int i1), s2, s3, .val (.ref o4), .val (.int i5), .val (.int (i6 + (own_delta i1))), .val (.int i7), .val (.int (own_sel (if_icmp.holds .lt (own_read (own_draw i1) i6) (0 : Int32)) (0 : Int32) (1 : Int32)))] [(.int (own_sel (if_icmp.holds .lt (own_read (own_draw i1) i6) (0 : Int32)) (0 : Int32) (1 : Int32)))])) _
  refine XS.iload X7.here hx rfl (hb hby at_136) rfl ?_
  show Steps p.tables e below (T7.setTop (mkF m 138 #[s0, .val (.int i1), s2, s3, .val (.ref o4), .val (.int i5), .val (.int (i6 + (own_delta i1))), .val (.int i7), .val (.int (own_sel (if_icmp.holds .lt (own_read (own_draw i1) i6) (0 : Int32)) (0 : Int32) (1 : Int32)))] [(.int (i6 + (own_delta i1))), (.int (own_sel (if_icmp.holds .lt (own_read (own_draw i1) i6) (0 : Int32)) (0 : Int32) (1 : Int32)))])) _
  refine own_bif X7.here hx rfl (pc0 := 138) rfl (hb hby at_138) (hb hby at_141) (hb hby at_142) (hb hby at_145) rfl ?_
  show Steps p.tables e below (T7.setTop (mkF m 146 #[s0, .val (.int i1), s2, s3, .val (.ref o4), .val (.int i5), .val (.int (i6 + (own_delta i1))), .val (.int i7), .val (.int (own_sel (if_icmp.holds .lt (own_read (own_draw i1) i6) (0 : Int32)) (0 : Int32) (1 : Int32)))] [(.int (own_sel (if_icmp.holds .lt (i6 + (own_delta i1)) (0 : Int32)) (0 : Int32) (1 : Int32))), (.int (own_sel (if_icmp.holds .lt (own_read (own_draw i1) i6) (0 : Int32)) (0 : Int32) (1 : Int32)))])) _
  refine XS.icmpNo X7.here hx rfl (hb hby at_146) rfl (teq (by rw [own_meet] : (own_sel (if_icmp.holds .lt (own_read (own_draw i1) i6) (0 : Int32)) (0 : Int32) (1 : Int32)) = (own_sel (if_icmp.holds .lt (i6 + (own_delta i1)) (0 : Int32)) (0 : Int32) (1 : Int32)))).2 ?_
  show Steps p.tables e below (T7.setTop (mkF m 149 #[s0, .val (.int i1), s2, s3, .val (.ref o4), .val (.int i5), .val (.int (i6 + (own_delta i1))), .val (.int i7), .val (.int (own_sel (if_icmp.holds .lt (own_read (own_draw i1) i6) (0 : Int32)) (0 : Int32) (1 : Int32)))] [])) _
  refine XS.aload X7.here hx rfl (hb hby at_149) rfl rfl ?_
  show Steps p.tables e below (T7.setTop (mkF m 151 #[s0, .val (.int i1), s2, s3, .val (.ref o4), .val (.int i5), .val (.int (i6 + (own_delta i1))), .val (.int i7), .val (.int (own_sel (if_icmp.holds .lt (own_read (own_draw i1) i6) (0 : Int32)) (0 : Int32) (1 : Int32)))] [(.ref o4)])) _
  refine st8.trans ?_
  show Steps p.tables e below (T8.setTop (mkF m 154 #[s0, .val (.int i1), s2, s3, .val (.ref o4), .val (.int i5), .val (.int (i6 + (own_delta i1))), .val (.int i7), .val (.int (own_sel (if_icmp.holds .lt (own_read (own_draw i1) i6) (0 : Int32)) (0 : Int32) (1 : Int32)))] [(.int (own_sel (if_icmp.holds .ne (i6 + own_delta i1) (0 : Int32)) (0 : Int32) (1 : Int32)))])) _
  refine XS.iload X8.here hx rfl (hb hby at_154) rfl ?_
  show Steps p.tables e below (T8.setTop (mkF m 156 #[s0, .val (.int i1), s2, s3, .val (.ref o4), .val (.int i5), .val (.int (i6 + (own_delta i1))), .val (.int i7), .val (.int (own_sel (if_icmp.holds .lt (own_read (own_draw i1) i6) (0 : Int32)) (0 : Int32) (1 : Int32)))] [(.int (i6 + (own_delta i1))), (.int (own_sel (if_icmp.holds .ne (i6 + own_delta i1) (0 : Int32)) (0 : Int32) (1 : Int32)))])) _
  refine own_bif X8.here hx rfl (pc0 := 156) rfl (hb hby at_156) (hb hby at_159) (hb hby at_160) (hb hby at_163) rfl ?_
  show Steps p.tables e below (T8.setTop (mkF m 164 #[s0, .val (.int i1), s2, s3, .val (.ref o4), .val (.int i5), .val (.int (i6 + (own_delta i1))), .val (.int i7), .val (.int (own_sel (if_icmp.holds .lt (own_read (own_draw i1) i6) (0 : Int32)) (0 : Int32) (1 : Int32)))] [(.int (own_sel (if_icmp.holds .ne (i6 + (own_delta i1)) (0 : Int32)) (0 : Int32) (1 : Int32))), (.int (own_sel (if_icmp.holds .ne (i6 + own_delta i1) (0 : Int32)) (0 : Int32) (1 : Int32)))])) _
  refine XS.icmpNo X8.here hx rfl (hb hby at_164) rfl (teq (rfl : (own_sel (if_icmp.holds .ne (i6 + own_delta i1) (0 : Int32)) (0 : Int32) (1 : Int32)) = (own_sel (if_icmp.holds .ne (i6 + (own_delta i1)) (0 : Int32)) (0 : Int32) (1 : Int32)))).2 ?_
  show Steps p.tables e below (T8.setTop (mkF m 167 #[s0, .val (.int i1), s2, s3, .val (.ref o4), .val (.int i5), .val (.int (i6 + (own_delta i1))), .val (.int i7), .val (.int (own_sel (if_icmp.holds .lt (own_read (own_draw i1) i6) (0 : Int32)) (0 : Int32) (1 : Int32)))] [])) _
  refine XS.iconst X8.here hx rfl (hb hby at_167) ?_
  show Steps p.tables e below (T8.setTop (mkF m 168 #[s0, .val (.int i1), s2, s3, .val (.ref o4), .val (.int i5), .val (.int (i6 + (own_delta i1))), .val (.int i7), .val (.int (own_sel (if_icmp.holds .lt (own_read (own_draw i1) i6) (0 : Int32)) (0 : Int32) (1 : Int32)))] [(.int (1 : Int32))])) _
  refine XS.goto X8.here hx rfl (pc0 := 168) (pc' := 172) rfl (hb hby at_168) (by decide) (by decide) ?_
  show Steps p.tables e below (T8.setTop (mkF m 172 #[s0, .val (.int i1), s2, s3, .val (.ref o4), .val (.int i5), .val (.int (i6 + (own_delta i1))), .val (.int i7), .val (.int (own_sel (if_icmp.holds .lt (own_read (own_draw i1) i6) (0 : Int32)) (0 : Int32) (1 : Int32)))] [(.int (1 : Int32))])) _
  refine XS.istore X8.here hx rfl (hb hby at_172) rfl (l' := #[s0, .val (.int i1), s2, s3, .val (.ref o4), .val (.int (1 : Int32)), .val (.int (i6 + (own_delta i1))), .val (.int i7), .val (.int (own_sel (if_icmp.holds .lt (own_read (own_draw i1) i6) (0 : Int32)) (0 : Int32) (1 : Int32)))]) rfl ?_
  show Steps p.tables e below (T8.setTop (mkF m 174 #[s0, .val (.int i1), s2, s3, .val (.ref o4), .val (.int (1 : Int32)), .val (.int (i6 + (own_delta i1))), .val (.int i7), .val (.int (own_sel (if_icmp.holds .lt (own_read (own_draw i1) i6) (0 : Int32)) (0 : Int32) (1 : Int32)))] [])) _
  refine XS.iload X8.here hx rfl (hb hby at_174) rfl ?_
  show Steps p.tables e below (T8.setTop (mkF m 176 #[s0, .val (.int i1), s2, s3, .val (.ref o4), .val (.int (1 : Int32)), .val (.int (i6 + (own_delta i1))), .val (.int i7), .val (.int (own_sel (if_icmp.holds .lt (own_read (own_draw i1) i6) (0 : Int32)) (0 : Int32) (1 : Int32)))] [(.int (i6 + (own_delta i1)))])) _
  refine own_bif X8.here hx rfl (pc0 := 176) rfl (hb hby at_176) (hb hby at_179) (hb hby at_180) (hb hby at_183) rfl ?_
  show Steps p.tables e below (T8.setTop (mkF m 184 #[s0, .val (.int i1), s2, s3, .val (.ref o4), .val (.int (1 : Int32)), .val (.int (i6 + (own_delta i1))), .val (.int i7), .val (.int (own_sel (if_icmp.holds .lt (own_read (own_draw i1) i6) (0 : Int32)) (0 : Int32) (1 : Int32)))] [(.int (own_sel (if_icmp.holds .lt (i6 + (own_delta i1)) (0 : Int32)) (0 : Int32) (1 : Int32)))])) _
  refine XS.istore X8.here hx rfl (hb hby at_184) rfl (l' := #[s0, .val (.int i1), s2, s3, .val (.ref o4), .val (.int (1 : Int32)), .val (.int (i6 + (own_delta i1))), .val (.int (own_sel (if_icmp.holds .lt (i6 + (own_delta i1)) (0 : Int32)) (0 : Int32) (1 : Int32))), .val (.int (own_sel (if_icmp.holds .lt (own_read (own_draw i1) i6) (0 : Int32)) (0 : Int32) (1 : Int32)))]) rfl ?_
  exact kt

set_option maxRecDepth 65536 in
set_option maxHeartbeats 40000000 in
theorem tx0_104_186 {p : Program} {l : Launch} {e : Env} {R : Room} {s : State} {m : MethodId} {args : Array Value} {below : List Frame} {meth : Method} {c : Code} {T0 : State} {locs : List Loc} {cells slots : Nat} {Z : State} {a0 : Array Value} {h0 : Heap} (s0 : Slot) (s1 : Slot) (s2 : Slot) (s3 : Slot) (s4 : Slot) (s5 : Slot) (s6 : Slot) (i7 : Int32) (s8 : Slot)
    (X0 : Stand p l e R s m args below meth c T0 locs cells slots) (hx : p.tables.exec = Jvm.exec) (hZ : Z.Warmed39 s.vm) (hw : ∀ d ∈ tables_1, d.before a0 Z = true) (hby : c.code = code) (hml : c.maxLocals = 9) (hown : s.vm.findClass "com/example/olm/olm/db/ParenthesesReadPinLaw" = some m.cls) (e0 : T0.heap = h0) (hc106 : i7 = (0 : Int32)) :
    ∃ (T' : State), Stand p l e R s m args below meth c T' locs cells slots ∧ T'.heap = h0 ∧
      ∀ target, Steps p.tables e below (T'.setTop (mkF m 186 #[s0, s1, s2, s3, s4, s5, s6, .val (.int i7), s8] [])) target → Steps p.tables e below (T0.setTop (mkF m 104 #[s0, s1, s2, s3, s4, s5, s6, .val (.int i7), s8] [])) target := by

  refine ⟨T0, X0, e0, fun target kt => ?_⟩
  show Steps p.tables e below (T0.setTop (mkF m 104 #[s0, s1, s2, s3, s4, s5, s6, .val (.int i7), s8] [])) _
  refine XS.iload X0.here hx rfl (hb hby at_104) rfl ?_
  show Steps p.tables e below (T0.setTop (mkF m 106 #[s0, s1, s2, s3, s4, s5, s6, .val (.int i7), s8] [(.int i7)])) _
  refine XS.ifYes X0.here hx rfl (pc0 := 106) (pc' := 186) rfl (hb hby at_106) rfl ((if0 _ _).trans (teq hc106).1) (by decide) (by decide) ?_
  exact kt

theorem blk_104 {p : Program} {l : Launch} {e : Env} {s : State} {m : MethodId} {args : Array Value} {below : List Frame} {meth : Method} {c : Code} {T0 : State} {locs : List Loc} {Z : State} {a0 : Array Value} {h0 : Heap} (p1 p2 p3 p4 : Int32) (o4 : Addr) (d b : Int32) (s8 : Slot) (n0 : Nat)
    (X0 : Stand p l e room_1 s m args below meth c T0 locs 1 1) (hx : p.tables.exec = Jvm.exec) (hZ : Z.Warmed39 s.vm) (hw : ∀ d ∈ tables_1, d.before a0 Z = true) (hby : c.code = code) (hml : c.maxLocals = 9) (hown : s.vm.findClass "com/example/olm/olm/db/ParenthesesReadPinLaw" = some m.cls) (e0 : T0.heap = h0) (Z0 : n0 ≤ h0.size) (N0 : Fr n0 locs) (g_o4 : n0 ≤ o4) (F_d : Fld Z h0 o4 "com/example/olm/olm/db/Parentheses" "depth" "I" (.int d)) (E_o4 : Exa Z h0 o4 "com/example/olm/olm/db/Parentheses") (hs8 : One s8) :
    ∃ (T' : State) (h' : Heap) (locs' : List Loc) (d' b' : Int32) (s8' : Slot), Stand p l e room_1 s m args below meth c T' locs' 1 1 ∧ T'.heap = h' ∧ Fr n0 locs' ∧ n0 ≤ h'.size ∧ Exa Z h' o4 "com/example/olm/olm/db/Parentheses" ∧ Fld Z h' o4 "com/example/olm/olm/db/Parentheses" "depth" "I" (.int d') ∧ One s8' ∧
      ∀ target, Steps p.tables e below (T'.setTop (mkF m 186 #[.val (.int p1), .val (.int p2), .val (.int p3), .val (.int p4), .val (.ref o4), .val (.int (1 : Int32)), .val (.int d'), .val (.int b'), s8'] [])) target → Steps p.tables e below (T0.setTop (mkF m 104 #[.val (.int p1), .val (.int p2), .val (.int p3), .val (.int p4), .val (.ref o4), .val (.int (1 : Int32)), .val (.int d), .val (.int b), s8] [])) target := by
  by_cases hb0 : b = (0 : Int32)
  · obtain ⟨T', X', e', st⟩ := tx0_104_186 (.val (.int p1)) (.val (.int p2)) (.val (.int p3)) (.val (.int p4)) (.val (.ref o4)) (.val (.int (1 : Int32))) (.val (.int d)) b s8 X0 hx hZ hw hby hml hown e0 hb0
    exact ⟨T', h0, locs, d, b, s8, X', e', N0, Z0, E_o4, F_d, hs8, st⟩
  · obtain ⟨T', h', locs', X', e', N', Z', E', F', st⟩ := tn0_104_186 (.val (.int p1)) p2 (.val (.int p3)) (.val (.int p4)) o4 (1 : Int32) d b s8 n0 X0 hx hZ hw hby hml hown e0 Z0 N0 g_o4 F_d E_o4 hs8 hb0 (by decide)
    exact ⟨T', h', locs', _, _, _, X', e', N', Z', E', F', One.val rfl, st⟩
theorem os0_209 {s0 : Slot} {s1 : Slot} {z2 : Value} {s3 : Slot} {z4 : Value} {z5 : Value} {z6 : Value} {z7 : Value} {s8 : Slot} {v : Int32} (h : One s8) : storeLocals #[s0, s1, .val z2, s3, .val z4, .val z5, .val z6, .val z7, s8] 8 (.int v) = some #[s0, s1, .val z2, s3, .val z4, .val z5, .val z6, .val z7, .val (.int v)] := by
  rcases h with rfl | ⟨w, rfl, hw⟩
  · rfl
  · cases w <;> first | rfl | (simp [Value.category] at hw)
set_option maxRecDepth 65536 in
set_option maxHeartbeats 40000000 in
theorem tn0_186_268 {p : Program} {l : Launch} {e : Env} {s : State} {m : MethodId} {args : Array Value} {below : List Frame} {meth : Method} {c : Code} {T0 : State} {locs : List Loc} {Z : State} {a0 : Array Value} {h0 : Heap} (s0 : Slot) (s1 : Slot) (i2 : Int32) (s3 : Slot) (o4 : Addr) (i5 : Int32) (i6 : Int32) (i7 : Int32) (s8 : Slot) (n0 : Nat)
    (X0 : Stand p l e room_1 s m args below meth c T0 locs 1 1) (hx : p.tables.exec = Jvm.exec) (hZ : Z.Warmed39 s.vm) (hw : ∀ d ∈ tables_1, d.before a0 Z = true) (hby : c.code = code) (hml : c.maxLocals = 9) (hown : s.vm.findClass "com/example/olm/olm/db/ParenthesesReadPinLaw" = some m.cls) (e0 : T0.heap = h0) (Z0 : n0 ≤ h0.size) (N0 : Fr n0 locs) (g_o4 : n0 ≤ o4) (F_d : Fld Z h0 o4 "com/example/olm/olm/db/Parentheses" "depth" "I" (.int i6)) (E_o4 : Exa Z h0 o4 "com/example/olm/olm/db/Parentheses") (hs8 : One s8) (hc188 : ¬ (i7 = (0 : Int32))) (hc213 : ¬ (i5 = (0 : Int32))) :
    ∃ (T' : State) (h' : Heap) (locs' : List Loc), Stand p l e room_1 s m args below meth c T' locs' 1 1 ∧ T'.heap = h' ∧ Fr n0 locs' ∧ n0 ≤ h'.size ∧ Exa Z h' o4 "com/example/olm/olm/db/Parentheses" ∧ Fld Z h' o4 "com/example/olm/olm/db/Parentheses" "depth" "I" (.int (i6 + own_delta i2)) ∧
      ∀ target, Steps p.tables e below (T'.setTop (mkF m 268 #[s0, s1, .val (.int i2), s3, .val (.ref o4), .val (.int (1 : Int32)), .val (.int (i6 + (own_delta i2))), .val (.int (own_sel (if_icmp.holds .lt (i6 + (own_delta i2)) (0 : Int32)) (0 : Int32) (1 : Int32))), .val (.int (own_sel (if_icmp.holds .lt (own_read (own_draw i2) i6) (0 : Int32)) (0 : Int32) (1 : Int32)))] [])) target → Steps p.tables e below (T0.setTop (mkF m 186 #[s0, s1, .val (.int i2), s3, .val (.ref o4), .val (.int i5), .val (.int i6), .val (.int i7), s8] [])) target := by
  obtain ⟨_, _, ⟨T5, L5, k5, n5⟩, -, X5, ⟨Lc5, hQ5, l5, y5, z5⟩, st5⟩ := Jvm.LawKit.callS X0 hx (y := (⟨"com/example/olm/olm/db/ParenthesesReadPinLaw", "delta", "(I)I"⟩ : MethodName)) hown (mvT hZ (hw _ (List.mem_of_getElem? (i := 16) rfl))) (mvT hZ (hw _ (List.mem_of_getElem? (i := 17) rfl))) (mvT hZ (hw _ (List.mem_of_getElem? (i := 18) rfl))) (mvT hZ (hw _ (List.mem_of_getElem? (i := 19) rfl))) (by decide) (backOf (W := 1) (rm4 l Z a0 hw [] i2  h0 n0 Z0) hZ (hw _ (List.mem_of_getElem? (i := 19) rfl)) (hw _ (List.mem_of_getElem? (i := 18) rfl)) (by decide) (by decide)) (g := (mkF m 194 #[s0, s1, .val (.int i2), s3, .val (.ref o4), .val (.int i5), .val (.int i6), .val (.int i7), s8] [(.int i2), (.int i6)])) rfl (by rw [hml]; rfl) (argsL := [(.int i2)]) (rest := [(.int i6)]) (lenOf pd_0_2 rfl) rfl (by show 2 * 0 + _ ≤ _; exact Nat.le_of_eq rfl) (hb hby at_194) (fun _ _ => ⟨rfl, e0, (by decide : 1 + 0 ≤ _), (by decide : 1 + 0 ≤ _)⟩)
  dsimp only [Pt.U, Pt.locs, Pt.cells, Pt.slots] at X5 l5 y5 z5 st5 hQ5
  subst l5 y5 z5
  obtain ⟨rfl, N5q, e5⟩ := hQ5      -- what it returned, that it wrote nothing old, and the rest of your Q4
  have N5 := Fr.app N0 N5q
  obtain ⟨_, _, ⟨T6, L6, k6, n6⟩, -, X6, ⟨Lc6, hQ6, l6, y6, z6⟩, st6⟩ := Jvm.LawKit.callS X5 hx (y := (⟨"com/example/olm/olm/db/ParenthesesReadPinLaw", "draw", "(I)C"⟩ : MethodName)) hown (mvT hZ (hw _ (List.mem_of_getElem? (i := 20) rfl))) (mvT hZ (hw _ (List.mem_of_getElem? (i := 21) rfl))) (mvT hZ (hw _ (List.mem_of_getElem? (i := 18) rfl))) (mvT hZ (hw _ (List.mem_of_getElem? (i := 22) rfl))) (by decide) (backOf (W := 1) (rm5 l Z a0 hw [] i2  T5.heap n0 (by rw [e5]; exact Z0)) hZ (hw _ (List.mem_of_getElem? (i := 22) rfl)) (hw _ (List.mem_of_getElem? (i := 18) rfl)) (by decide) (by decide)) (g := (mkF m 203 #[s0, s1, .val (.int i2), s3, .val (.ref o4), .val (.int i5), .val (.int (i6 + (own_delta i2))), .val (.int i7), s8] [(.int i2), (.ref o4)])) rfl (by rw [hml]; rfl) (argsL := [(.int i2)]) (rest := [(.ref o4)]) (lenOf pd_0_3 rfl) rfl (by show 2 * 0 + _ ≤ _; exact Nat.le_of_eq rfl) (hb hby at_203) (fun _ _ => ⟨rfl, rfl, (by decide : 1 + 0 ≤ _), (by decide : 1 + 0 ≤ _)⟩)
  dsimp only [Pt.U, Pt.locs, Pt.cells, Pt.slots] at X6 l6 y6 z6 st6 hQ6
  subst l6 y6 z6
  obtain ⟨rfl, N6q, e6⟩ := hQ6      -- what it returned, that it wrote nothing old, and the rest of your Q5
  have N6 := Fr.app N5 N6q
  have Z6 : n0 ≤ T6.heap.size := by rw [e6, e5]; exact Z0
  have F6 : Fld Z T6.heap o4 "com/example/olm/olm/db/Parentheses" "depth" "I" (.int i6) := by rw [e6, e5]; exact F_d
  have Ex6 : Exa Z T6.heap o4 "com/example/olm/olm/db/Parentheses" := by rw [e6, e5]; exact E_o4
  obtain ⟨cq7, kq7, q7a, q7b, q7c⟩ := isOf hZ rfl ((E_o4.keep (own_keep_eq (ws := []) e5)).keep (own_keep_eq (ws := []) e6))
  obtain ⟨_, _, ⟨T7, L7, k7, n7⟩, -, X7, ⟨Lc7, hQ7, l7, y7, z7⟩, st7⟩ := X6.virtualBack hx (y := (⟨"com/example/olm/olm/db/Parentheses", "read", "(C)Z"⟩ : MethodName)) (z := (⟨"com/example/olm/olm/db/Parentheses", "read", "(C)Z"⟩ : MethodName)) hown (mvT hZ (hw _ (List.mem_of_getElem? (i := 23) rfl))) (mvT hZ (hw _ (List.mem_of_getElem? (i := 24) rfl))) (notFace_of_selects (args := #[]) (mvT hZ (hw _ (List.mem_of_getElem? (i := 26) rfl)))) (mvT hZ (hw _ (List.mem_of_getElem? (i := 26) rfl))) (mvT hZ (hw _ (List.mem_of_getElem? (i := 25) rfl))) (by decide) (backOf (W := 0) (rm6 l Z a0 hw [] o4 (own_draw i2) i6 T6.heap n0 Z6 F6 Ex6 g_o4) hZ (hw _ (List.mem_of_getElem? (i := 27) rfl)) (hw _ (List.mem_of_getElem? (i := 2) rfl)) (by decide) (by decide)) q7a q7c (g := (mkF m 206 #[s0, s1, .val (.int i2), s3, .val (.ref o4), .val (.int i5), .val (.int (i6 + (own_delta i2))), .val (.int i7), s8] [(.int (own_draw i2)), (.ref o4)])) rfl (by rw [hml]; rfl) (Steps.refl _) (argsL := [(.int (own_draw i2))]) (rest := []) (lenOf pd_0_4 rfl) rfl (by show 2 * 0 + _ ≤ _; exact Nat.le_of_eq rfl) (hb hby at_206) (fun _ _ => ⟨rfl, rfl, (by decide : 1 + 0 ≤ _), (by decide : 1 + 0 ≤ _)⟩)
  dsimp only [Pt.U, Pt.locs, Pt.cells, Pt.slots] at X7 l7 y7 z7 st7 hQ7
  subst l7 y7 z7
  obtain ⟨rfl, N7q, K7, Ex7, F7⟩ := hQ7      -- what it returned, that it wrote nothing old, and the rest of your Q6
  have N7 := Fr.app N6 N7q
  have F7' : Fld Z T7.heap o4 "com/example/olm/olm/db/Parentheses" "depth" "I" (.int (i6 + own_delta i2)) := own_meet i2 i6 ▸ F7
  obtain ⟨cq8, kq8, q8a, q8b, q8c⟩ := isOf hZ rfl (((E_o4.keep (own_keep_eq (ws := []) e5)).keep (own_keep_eq (ws := []) e6)).keep K7)
  obtain ⟨_, _, ⟨T8, L8, k8, n8⟩, -, X8, ⟨Lc8, hQ8, l8, y8, z8⟩, st8⟩ := X7.virtualBack hx (y := (⟨"com/example/olm/olm/db/Parentheses", "isClosed", "()Z"⟩ : MethodName)) (z := (⟨"com/example/olm/olm/db/Parentheses", "isClosed", "()Z"⟩ : MethodName)) hown (mvT hZ (hw _ (List.mem_of_getElem? (i := 9) rfl))) (mvT hZ (hw _ (List.mem_of_getElem? (i := 10) rfl))) (notFace_of_selects (args := #[]) (mvT hZ (hw _ (List.mem_of_getElem? (i := 12) rfl)))) (mvT hZ (hw _ (List.mem_of_getElem? (i := 12) rfl))) (mvT hZ (hw _ (List.mem_of_getElem? (i := 11) rfl))) (by decide) (backOf (W := 0) (rm3 l Z a0 hw [] o4 (i6 + own_delta i2) T7.heap n0 (Nat.le_trans Z6 K7.1) F7') hZ (hw _ (List.mem_of_getElem? (i := 13) rfl)) (hw _ (List.mem_of_getElem? (i := 2) rfl)) (by decide) (by decide)) q8a q8c (g := (mkF m 233 #[s0, s1, .val (.int i2), s3, .val (.ref o4), .val (.int i5), .val (.int (i6 + (own_delta i2))), .val (.int i7), .val (.int (own_sel (if_icmp.holds .lt (own_read (own_draw i2) i6) (0 : Int32)) (0 : Int32) (1 : Int32)))] [(.ref o4)])) rfl (by rw [hml]; rfl) (Steps.refl _) (argsL := []) (rest := []) (lenOf pd_0_1 rfl) rfl (by show 2 * 0 + _ ≤ _; exact Nat.le_of_eq rfl) (hb hby at_233) (fun _ _ => ⟨rfl, rfl, (by decide : 1 + 0 ≤ _), (by decide : 1 + 0 ≤ _)⟩)
  dsimp only [Pt.U, Pt.locs, Pt.cells, Pt.slots] at X8 l8 y8 z8 st8 hQ8
  subst l8 y8 z8
  obtain ⟨rfl, N8q, e8⟩ := hQ8      -- what it returned, that it wrote nothing old, and the rest of your Q3
  have N8 := Fr.app N7 N8q
  refine ⟨T8, _, _, X8, rfl, N8, (by rw [e8]; exact Nat.le_trans Z6 K7.1), e8.symm ▸ Ex7, e8.symm ▸ F7', fun target kt => ?_⟩
  show Steps p.tables e below (T0.setTop (mkF m 186 #[s0, s1, .val (.int i2), s3, .val (.ref o4), .val (.int i5), .val (.int i6), .val (.int i7), s8] [])) _
  refine XS.iload X0.here hx rfl (hb hby at_186) rfl ?_
  show Steps p.tables e below (T0.setTop (mkF m 188 #[s0, s1, .val (.int i2), s3, .val (.ref o4), .val (.int i5), .val (.int i6), .val (.int i7), s8] [(.int i7)])) _
  refine XS.ifNo X0.here hx rfl (hb hby at_188) rfl ((if0 _ _).trans (feq hc188).1) ?_
  show Steps p.tables e below (T0.setTop (mkF m 191 #[s0, s1, .val (.int i2), s3, .val (.ref o4), .val (.int i5), .val (.int i6), .val (.int i7), s8] [])) _
  refine XS.iload X0.here hx rfl (hb hby at_191) rfl ?_
  show Steps p.tables e below (T0.setTop (mkF m 193 #[s0, s1, .val (.int i2), s3, .val (.ref o4), .val (.int i5), .val (.int i6), .val (.int i7), s8] [(.int i6)])) _
  refine XS.iloadN X0.here hx rfl (hb hby at_193) rfl ?_
  show Steps p.tables e below (T0.setTop (mkF m 194 #[s0, s1, .val (.int i2), s3, .val (.ref o4), .val (.int i5), .val (.int i6), .val (.int i7), s8] [(.int i2), (.int i6)])) _
  refine st5 _ ?_
  show Steps p.tables e below (T5.setTop (mkF m 197 #[s0, s1, .val (.int i2), s3, .val (.ref o4), .val (.int i5), .val (.int i6), .val (.int i7), s8] [(.int (own_delta i2)), (.int i6)])) _
  refine XS.iadd X5.here hx rfl (hb hby at_197) rfl ?_
  show Steps p.tables e below (T5.setTop (mkF m 198 #[s0, s1, .val (.int i2), s3, .val (.ref o4), .val (.int i5), .val (.int i6), .val (.int i7), s8] [(.int (i6 + (own_delta i2)))])) _
  refine XS.istore X5.here hx rfl (hb hby at_198) rfl (l' := #[s0, s1, .val (.int i2), s3, .val (.ref o4), .val (.int i5), .val (.int (i6 + (own_delta i2))), .val (.int i7), s8]) rfl ?_
  show Steps p.tables e below (T5.setTop (mkF m 200 #[s0, s1, .val (.int i2), s3, .val (.ref o4), .val (.int i5), .val (.int (i6 + (own_delta i2))), .val (.int i7), s8] [])) _
  refine XS.aload X5.here hx rfl (hb hby at_200) rfl rfl ?_
  show Steps p.tables e below (T5.setTop (mkF m 202 #[s0, s1, .val (.int i2), s3, .val (.ref o4), .val (.int i5), .val (.int (i6 + (own_delta i2))), .val (.int i7), s8] [(.ref o4)])) _
  refine XS.iloadN X5.here hx rfl (hb hby at_202) rfl ?_
  show Steps p.tables e below (T5.setTop (mkF m 203 #[s0, s1, .val (.int i2), s3, .val (.ref o4), .val (.int i5), .val (.int (i6 + (own_delta i2))), .val (.int i7), s8] [(.int i2), (.ref o4)])) _
  refine st6 _ ?_
  show Steps p.tables e below (T6.setTop (mkF m 206 #[s0, s1, .val (.int i2), s3, .val (.ref o4), .val (.int i5), .val (.int (i6 + (own_delta i2))), .val (.int i7), s8] [(.int (own_draw i2)), (.ref o4)])) _
  refine st7.trans ?_
  show Steps p.tables e below (T7.setTop (mkF m 209 #[s0, s1, .val (.int i2), s3, .val (.ref o4), .val (.int i5), .val (.int (i6 + (own_delta i2))), .val (.int i7), s8] [(.int (own_sel (if_icmp.holds .lt (own_read (own_draw i2) i6) (0 : Int32)) (0 : Int32) (1 : Int32)))])) _
  refine XS.istore X7.here hx rfl (hb hby at_209) rfl (l' := #[s0, s1, .val (.int i2), s3, .val (.ref o4), .val (.int i5), .val (.int (i6 + (own_delta i2))), .val (.int i7), .val (.int (own_sel (if_icmp.holds .lt (own_read (own_draw i2) i6) (0 : Int32)) (0 : Int32) (1 : Int32)))]) (os0_209 hs8) ?_
  show Steps p.tables e below (T7.setTop (mkF m 211 #[s0, s1, .val (.int i2), s3, .val (.ref o4), .val (.int i5), .val (.int (i6 + (own_delta i2))), .val (.int i7), .val (.int (own_sel (if_icmp.holds .lt (own_read (own_draw i2) i6) (0 : Int32)) (0 : Int32) (1 : Int32)))] [])) _
  refine XS.iload X7.here hx rfl (hb hby at_211) rfl ?_
  show Steps p.tables e below (T7.setTop (mkF m 213 #[s0, s1, .val (.int i2), s3, .val (.ref o4), .val (.int i5), .val (.int (i6 + (own_delta i2))), .val (.int i7), .val (.int (own_sel (if_icmp.holds .lt (own_read (own_draw i2) i6) (0 : Int32)) (0 : Int32) (1 : Int32)))] [(.int i5)])) _
  refine XS.ifNo X7.here hx rfl (hb hby at_213) rfl ((if0 _ _).trans (feq hc213).1) ?_
  show Steps p.tables e below (T7.setTop (mkF m 216 #[s0, s1, .val (.int i2), s3, .val (.ref o4), .val (.int i5), .val (.int (i6 + (own_delta i2))), .val (.int i7), .val (.int (own_sel (if_icmp.holds .lt (own_read (own_draw i2) i6) (0 : Int32)) (0 : Int32) (1 : Int32)))] [])) _
  refine XS.iload X7.here hx rfl (hb hby at_216) rfl ?_
  show Steps p.tables e below (T7.setTop (mkF m 218 #[s0, s1, .val (.int i2), s3, .val (.ref o4), .val (.int i5), .val (.int (i6 + (own_delta i2))), .val (.int i7), .val (.int (own_sel (if_icmp.holds .lt (own_read (own_draw i2) i6) (0 : Int32)) (0 : Int32) (1 : Int32)))] [(.int (own_sel (if_icmp.holds .lt (own_read (own_draw i2) i6) (0 : Int32)) (0 : Int32) (1 : Int32)))])) _
  refine XS.iload X7.here hx rfl (hb hby at_218) rfl ?_
  show Steps p.tables e below (T7.setTop (mkF m 220 #[s0, s1, .val (.int i2), s3, .val (.ref o4), .val (.int i5), .val (.int (i6 + (own_delta i2))), .val (.int i7), .val (.int (own_sel (if_icmp.holds .lt (own_read (own_draw i2) i6) (0 : Int32)) (0 : Int32) (1 : Int32)))] [(.int (i6 + (own_delta i2))), (.int (own_sel (if_icmp.holds .lt (own_read (own_draw i2) i6) (0 : Int32)) (0 : Int32) (1 : Int32)))])) _
  refine own_bif X7.here hx rfl (pc0 := 220) rfl (hb hby at_220) (hb hby at_223) (hb hby at_224) (hb hby at_227) rfl ?_
  show Steps p.tables e below (T7.setTop (mkF m 228 #[s0, s1, .val (.int i2), s3, .val (.ref o4), .val (.int i5), .val (.int (i6 + (own_delta i2))), .val (.int i7), .val (.int (own_sel (if_icmp.holds .lt (own_read (own_draw i2) i6) (0 : Int32)) (0 : Int32) (1 : Int32)))] [(.int (own_sel (if_icmp.holds .lt (i6 + (own_delta i2)) (0 : Int32)) (0 : Int32) (1 : Int32))), (.int (own_sel (if_icmp.holds .lt (own_read (own_draw i2) i6) (0 : Int32)) (0 : Int32) (1 : Int32)))])) _
  refine XS.icmpNo X7.here hx rfl (hb hby at_228) rfl (teq (by rw [own_meet] : (own_sel (if_icmp.holds .lt (own_read (own_draw i2) i6) (0 : Int32)) (0 : Int32) (1 : Int32)) = (own_sel (if_icmp.holds .lt (i6 + (own_delta i2)) (0 : Int32)) (0 : Int32) (1 : Int32)))).2 ?_
  show Steps p.tables e below (T7.setTop (mkF m 231 #[s0, s1, .val (.int i2), s3, .val (.ref o4), .val (.int i5), .val (.int (i6 + (own_delta i2))), .val (.int i7), .val (.int (own_sel (if_icmp.holds .lt (own_read (own_draw i2) i6) (0 : Int32)) (0 : Int32) (1 : Int32)))] [])) _
  refine XS.aload X7.here hx rfl (hb hby at_231) rfl rfl ?_
  show Steps p.tables e below (T7.setTop (mkF m 233 #[s0, s1, .val (.int i2), s3, .val (.ref o4), .val (.int i5), .val (.int (i6 + (own_delta i2))), .val (.int i7), .val (.int (own_sel (if_icmp.holds .lt (own_read (own_draw i2) i6) (0 : Int32)) (0 : Int32) (1 : Int32)))] [(.ref o4)])) _
  refine st8.trans ?_
  show Steps p.tables e below (T8.setTop (mkF m 236 #[s0, s1, .val (.int i2), s3, .val (.ref o4), .val (.int i5), .val (.int (i6 + (own_delta i2))), .val (.int i7), .val (.int (own_sel (if_icmp.holds .lt (own_read (own_draw i2) i6) (0 : Int32)) (0 : Int32) (1 : Int32)))] [(.int (own_sel (if_icmp.holds .ne (i6 + own_delta i2) (0 : Int32)) (0 : Int32) (1 : Int32)))])) _
  refine XS.iload X8.here hx rfl (hb hby at_236) rfl ?_
  show Steps p.tables e below (T8.setTop (mkF m 238 #[s0, s1, .val (.int i2), s3, .val (.ref o4), .val (.int i5), .val (.int (i6 + (own_delta i2))), .val (.int i7), .val (.int (own_sel (if_icmp.holds .lt (own_read (own_draw i2) i6) (0 : Int32)) (0 : Int32) (1 : Int32)))] [(.int (i6 + (own_delta i2))), (.int (own_sel (if_icmp.holds .ne (i6 + own_delta i2) (0 : Int32)) (0 : Int32) (1 : Int32)))])) _
  refine own_bif X8.here hx rfl (pc0 := 238) rfl (hb hby at_238) (hb hby at_241) (hb hby at_242) (hb hby at_245) rfl ?_
  show Steps p.tables e below (T8.setTop (mkF m 246 #[s0, s1, .val (.int i2), s3, .val (.ref o4), .val (.int i5), .val (.int (i6 + (own_delta i2))), .val (.int i7), .val (.int (own_sel (if_icmp.holds .lt (own_read (own_draw i2) i6) (0 : Int32)) (0 : Int32) (1 : Int32)))] [(.int (own_sel (if_icmp.holds .ne (i6 + (own_delta i2)) (0 : Int32)) (0 : Int32) (1 : Int32))), (.int (own_sel (if_icmp.holds .ne (i6 + own_delta i2) (0 : Int32)) (0 : Int32) (1 : Int32)))])) _
  refine XS.icmpNo X8.here hx rfl (hb hby at_246) rfl (teq (rfl : (own_sel (if_icmp.holds .ne (i6 + own_delta i2) (0 : Int32)) (0 : Int32) (1 : Int32)) = (own_sel (if_icmp.holds .ne (i6 + (own_delta i2)) (0 : Int32)) (0 : Int32) (1 : Int32)))).2 ?_
  show Steps p.tables e below (T8.setTop (mkF m 249 #[s0, s1, .val (.int i2), s3, .val (.ref o4), .val (.int i5), .val (.int (i6 + (own_delta i2))), .val (.int i7), .val (.int (own_sel (if_icmp.holds .lt (own_read (own_draw i2) i6) (0 : Int32)) (0 : Int32) (1 : Int32)))] [])) _
  refine XS.iconst X8.here hx rfl (hb hby at_249) ?_
  show Steps p.tables e below (T8.setTop (mkF m 250 #[s0, s1, .val (.int i2), s3, .val (.ref o4), .val (.int i5), .val (.int (i6 + (own_delta i2))), .val (.int i7), .val (.int (own_sel (if_icmp.holds .lt (own_read (own_draw i2) i6) (0 : Int32)) (0 : Int32) (1 : Int32)))] [(.int (1 : Int32))])) _
  refine XS.goto X8.here hx rfl (pc0 := 250) (pc' := 254) rfl (hb hby at_250) (by decide) (by decide) ?_
  show Steps p.tables e below (T8.setTop (mkF m 254 #[s0, s1, .val (.int i2), s3, .val (.ref o4), .val (.int i5), .val (.int (i6 + (own_delta i2))), .val (.int i7), .val (.int (own_sel (if_icmp.holds .lt (own_read (own_draw i2) i6) (0 : Int32)) (0 : Int32) (1 : Int32)))] [(.int (1 : Int32))])) _
  refine XS.istore X8.here hx rfl (hb hby at_254) rfl (l' := #[s0, s1, .val (.int i2), s3, .val (.ref o4), .val (.int (1 : Int32)), .val (.int (i6 + (own_delta i2))), .val (.int i7), .val (.int (own_sel (if_icmp.holds .lt (own_read (own_draw i2) i6) (0 : Int32)) (0 : Int32) (1 : Int32)))]) rfl ?_
  show Steps p.tables e below (T8.setTop (mkF m 256 #[s0, s1, .val (.int i2), s3, .val (.ref o4), .val (.int (1 : Int32)), .val (.int (i6 + (own_delta i2))), .val (.int i7), .val (.int (own_sel (if_icmp.holds .lt (own_read (own_draw i2) i6) (0 : Int32)) (0 : Int32) (1 : Int32)))] [])) _
  refine XS.iload X8.here hx rfl (hb hby at_256) rfl ?_
  show Steps p.tables e below (T8.setTop (mkF m 258 #[s0, s1, .val (.int i2), s3, .val (.ref o4), .val (.int (1 : Int32)), .val (.int (i6 + (own_delta i2))), .val (.int i7), .val (.int (own_sel (if_icmp.holds .lt (own_read (own_draw i2) i6) (0 : Int32)) (0 : Int32) (1 : Int32)))] [(.int (i6 + (own_delta i2)))])) _
  refine own_bif X8.here hx rfl (pc0 := 258) rfl (hb hby at_258) (hb hby at_261) (hb hby at_262) (hb hby at_265) rfl ?_
  show Steps p.tables e below (T8.setTop (mkF m 266 #[s0, s1, .val (.int i2), s3, .val (.ref o4), .val (.int (1 : Int32)), .val (.int (i6 + (own_delta i2))), .val (.int i7), .val (.int (own_sel (if_icmp.holds .lt (own_read (own_draw i2) i6) (0 : Int32)) (0 : Int32) (1 : Int32)))] [(.int (own_sel (if_icmp.holds .lt (i6 + (own_delta i2)) (0 : Int32)) (0 : Int32) (1 : Int32)))])) _
  refine XS.istore X8.here hx rfl (hb hby at_266) rfl (l' := #[s0, s1, .val (.int i2), s3, .val (.ref o4), .val (.int (1 : Int32)), .val (.int (i6 + (own_delta i2))), .val (.int (own_sel (if_icmp.holds .lt (i6 + (own_delta i2)) (0 : Int32)) (0 : Int32) (1 : Int32))), .val (.int (own_sel (if_icmp.holds .lt (own_read (own_draw i2) i6) (0 : Int32)) (0 : Int32) (1 : Int32)))]) rfl ?_
  exact kt

set_option maxRecDepth 65536 in
set_option maxHeartbeats 40000000 in
theorem tx0_186_268 {p : Program} {l : Launch} {e : Env} {R : Room} {s : State} {m : MethodId} {args : Array Value} {below : List Frame} {meth : Method} {c : Code} {T0 : State} {locs : List Loc} {cells slots : Nat} {Z : State} {a0 : Array Value} {h0 : Heap} (s0 : Slot) (s1 : Slot) (s2 : Slot) (s3 : Slot) (s4 : Slot) (s5 : Slot) (s6 : Slot) (i7 : Int32) (s8 : Slot)
    (X0 : Stand p l e R s m args below meth c T0 locs cells slots) (hx : p.tables.exec = Jvm.exec) (hZ : Z.Warmed39 s.vm) (hw : ∀ d ∈ tables_1, d.before a0 Z = true) (hby : c.code = code) (hml : c.maxLocals = 9) (hown : s.vm.findClass "com/example/olm/olm/db/ParenthesesReadPinLaw" = some m.cls) (e0 : T0.heap = h0) (hc188 : i7 = (0 : Int32)) :
    ∃ (T' : State), Stand p l e R s m args below meth c T' locs cells slots ∧ T'.heap = h0 ∧
      ∀ target, Steps p.tables e below (T'.setTop (mkF m 268 #[s0, s1, s2, s3, s4, s5, s6, .val (.int i7), s8] [])) target → Steps p.tables e below (T0.setTop (mkF m 186 #[s0, s1, s2, s3, s4, s5, s6, .val (.int i7), s8] [])) target := by

  refine ⟨T0, X0, e0, fun target kt => ?_⟩
  show Steps p.tables e below (T0.setTop (mkF m 186 #[s0, s1, s2, s3, s4, s5, s6, .val (.int i7), s8] [])) _
  refine XS.iload X0.here hx rfl (hb hby at_186) rfl ?_
  show Steps p.tables e below (T0.setTop (mkF m 188 #[s0, s1, s2, s3, s4, s5, s6, .val (.int i7), s8] [(.int i7)])) _
  refine XS.ifYes X0.here hx rfl (pc0 := 188) (pc' := 268) rfl (hb hby at_188) rfl ((if0 _ _).trans (teq hc188).1) (by decide) (by decide) ?_
  exact kt

theorem blk_186 {p : Program} {l : Launch} {e : Env} {s : State} {m : MethodId} {args : Array Value} {below : List Frame} {meth : Method} {c : Code} {T0 : State} {locs : List Loc} {Z : State} {a0 : Array Value} {h0 : Heap} (p1 p2 p3 p4 : Int32) (o4 : Addr) (d b : Int32) (s8 : Slot) (n0 : Nat)
    (X0 : Stand p l e room_1 s m args below meth c T0 locs 1 1) (hx : p.tables.exec = Jvm.exec) (hZ : Z.Warmed39 s.vm) (hw : ∀ d ∈ tables_1, d.before a0 Z = true) (hby : c.code = code) (hml : c.maxLocals = 9) (hown : s.vm.findClass "com/example/olm/olm/db/ParenthesesReadPinLaw" = some m.cls) (e0 : T0.heap = h0) (Z0 : n0 ≤ h0.size) (N0 : Fr n0 locs) (g_o4 : n0 ≤ o4) (F_d : Fld Z h0 o4 "com/example/olm/olm/db/Parentheses" "depth" "I" (.int d)) (E_o4 : Exa Z h0 o4 "com/example/olm/olm/db/Parentheses") (hs8 : One s8) :
    ∃ (T' : State) (h' : Heap) (locs' : List Loc) (d' b' : Int32) (s8' : Slot), Stand p l e room_1 s m args below meth c T' locs' 1 1 ∧ T'.heap = h' ∧ Fr n0 locs' ∧ n0 ≤ h'.size ∧ Exa Z h' o4 "com/example/olm/olm/db/Parentheses" ∧ Fld Z h' o4 "com/example/olm/olm/db/Parentheses" "depth" "I" (.int d') ∧ One s8' ∧
      ∀ target, Steps p.tables e below (T'.setTop (mkF m 268 #[.val (.int p1), .val (.int p2), .val (.int p3), .val (.int p4), .val (.ref o4), .val (.int (1 : Int32)), .val (.int d'), .val (.int b'), s8'] [])) target → Steps p.tables e below (T0.setTop (mkF m 186 #[.val (.int p1), .val (.int p2), .val (.int p3), .val (.int p4), .val (.ref o4), .val (.int (1 : Int32)), .val (.int d), .val (.int b), s8] [])) target := by
  by_cases hb0 : b = (0 : Int32)
  · obtain ⟨T', X', e', st⟩ := tx0_186_268 (.val (.int p1)) (.val (.int p2)) (.val (.int p3)) (.val (.int p4)) (.val (.ref o4)) (.val (.int (1 : Int32))) (.val (.int d)) b s8 X0 hx hZ hw hby hml hown e0 hb0
    exact ⟨T', h0, locs, d, b, s8, X', e', N0, Z0, E_o4, F_d, hs8, st⟩
  · obtain ⟨T', h', locs', X', e', N', Z', E', F', st⟩ := tn0_186_268 (.val (.int p1)) (.val (.int p2)) p3 (.val (.int p4)) o4 (1 : Int32) d b s8 n0 X0 hx hZ hw hby hml hown e0 Z0 N0 g_o4 F_d E_o4 hs8 hb0 (by decide)
    exact ⟨T', h', locs', _, _, _, X', e', N', Z', E', F', One.val rfl, st⟩
theorem os0_291 {s0 : Slot} {s1 : Slot} {s2 : Slot} {z3 : Value} {z4 : Value} {z5 : Value} {z6 : Value} {z7 : Value} {s8 : Slot} {v : Int32} (h : One s8) : storeLocals #[s0, s1, s2, .val z3, .val z4, .val z5, .val z6, .val z7, s8] 8 (.int v) = some #[s0, s1, s2, .val z3, .val z4, .val z5, .val z6, .val z7, .val (.int v)] := by
  rcases h with rfl | ⟨w, rfl, hw⟩
  · rfl
  · cases w <;> first | rfl | (simp [Value.category] at hw)
set_option maxRecDepth 65536 in
set_option maxHeartbeats 40000000 in
theorem tn0_268_338 {p : Program} {l : Launch} {e : Env} {s : State} {m : MethodId} {args : Array Value} {below : List Frame} {meth : Method} {c : Code} {T0 : State} {locs : List Loc} {Z : State} {a0 : Array Value} {h0 : Heap} (s0 : Slot) (s1 : Slot) (s2 : Slot) (i3 : Int32) (o4 : Addr) (i5 : Int32) (i6 : Int32) (i7 : Int32) (s8 : Slot) (n0 : Nat)
    (X0 : Stand p l e room_1 s m args below meth c T0 locs 1 1) (hx : p.tables.exec = Jvm.exec) (hZ : Z.Warmed39 s.vm) (hw : ∀ d ∈ tables_1, d.before a0 Z = true) (hby : c.code = code) (hml : c.maxLocals = 9) (hown : s.vm.findClass "com/example/olm/olm/db/ParenthesesReadPinLaw" = some m.cls) (e0 : T0.heap = h0) (Z0 : n0 ≤ h0.size) (N0 : Fr n0 locs) (g_o4 : n0 ≤ o4) (F_d : Fld Z h0 o4 "com/example/olm/olm/db/Parentheses" "depth" "I" (.int i6)) (E_o4 : Exa Z h0 o4 "com/example/olm/olm/db/Parentheses") (hs8 : One s8) (hc270 : ¬ (i7 = (0 : Int32))) (hc295 : ¬ (i5 = (0 : Int32))) :
    ∃ (T' : State) (h' : Heap) (locs' : List Loc), Stand p l e room_1 s m args below meth c T' locs' 1 1 ∧ T'.heap = h' ∧ Fr n0 locs' ∧ n0 ≤ h'.size ∧ Exa Z h' o4 "com/example/olm/olm/db/Parentheses" ∧ Fld Z h' o4 "com/example/olm/olm/db/Parentheses" "depth" "I" (.int (i6 + own_delta i3)) ∧
      ∀ target, Steps p.tables e below (T'.setTop (mkF m 338 #[s0, s1, s2, .val (.int i3), .val (.ref o4), .val (.int (1 : Int32)), .val (.int (i6 + (own_delta i3))), .val (.int i7), .val (.int (own_sel (if_icmp.holds .lt (own_read (own_draw i3) i6) (0 : Int32)) (0 : Int32) (1 : Int32)))] [])) target → Steps p.tables e below (T0.setTop (mkF m 268 #[s0, s1, s2, .val (.int i3), .val (.ref o4), .val (.int i5), .val (.int i6), .val (.int i7), s8] [])) target := by
  obtain ⟨_, _, ⟨T5, L5, k5, n5⟩, -, X5, ⟨Lc5, hQ5, l5, y5, z5⟩, st5⟩ := Jvm.LawKit.callS X0 hx (y := (⟨"com/example/olm/olm/db/ParenthesesReadPinLaw", "delta", "(I)I"⟩ : MethodName)) hown (mvT hZ (hw _ (List.mem_of_getElem? (i := 16) rfl))) (mvT hZ (hw _ (List.mem_of_getElem? (i := 17) rfl))) (mvT hZ (hw _ (List.mem_of_getElem? (i := 18) rfl))) (mvT hZ (hw _ (List.mem_of_getElem? (i := 19) rfl))) (by decide) (backOf (W := 1) (rm4 l Z a0 hw [] i3  h0 n0 Z0) hZ (hw _ (List.mem_of_getElem? (i := 19) rfl)) (hw _ (List.mem_of_getElem? (i := 18) rfl)) (by decide) (by decide)) (g := (mkF m 276 #[s0, s1, s2, .val (.int i3), .val (.ref o4), .val (.int i5), .val (.int i6), .val (.int i7), s8] [(.int i3), (.int i6)])) rfl (by rw [hml]; rfl) (argsL := [(.int i3)]) (rest := [(.int i6)]) (lenOf pd_0_2 rfl) rfl (by show 2 * 0 + _ ≤ _; exact Nat.le_of_eq rfl) (hb hby at_276) (fun _ _ => ⟨rfl, e0, (by decide : 1 + 0 ≤ _), (by decide : 1 + 0 ≤ _)⟩)
  dsimp only [Pt.U, Pt.locs, Pt.cells, Pt.slots] at X5 l5 y5 z5 st5 hQ5
  subst l5 y5 z5
  obtain ⟨rfl, N5q, e5⟩ := hQ5      -- what it returned, that it wrote nothing old, and the rest of your Q4
  have N5 := Fr.app N0 N5q
  obtain ⟨_, _, ⟨T6, L6, k6, n6⟩, -, X6, ⟨Lc6, hQ6, l6, y6, z6⟩, st6⟩ := Jvm.LawKit.callS X5 hx (y := (⟨"com/example/olm/olm/db/ParenthesesReadPinLaw", "draw", "(I)C"⟩ : MethodName)) hown (mvT hZ (hw _ (List.mem_of_getElem? (i := 20) rfl))) (mvT hZ (hw _ (List.mem_of_getElem? (i := 21) rfl))) (mvT hZ (hw _ (List.mem_of_getElem? (i := 18) rfl))) (mvT hZ (hw _ (List.mem_of_getElem? (i := 22) rfl))) (by decide) (backOf (W := 1) (rm5 l Z a0 hw [] i3  T5.heap n0 (by rw [e5]; exact Z0)) hZ (hw _ (List.mem_of_getElem? (i := 22) rfl)) (hw _ (List.mem_of_getElem? (i := 18) rfl)) (by decide) (by decide)) (g := (mkF m 285 #[s0, s1, s2, .val (.int i3), .val (.ref o4), .val (.int i5), .val (.int (i6 + (own_delta i3))), .val (.int i7), s8] [(.int i3), (.ref o4)])) rfl (by rw [hml]; rfl) (argsL := [(.int i3)]) (rest := [(.ref o4)]) (lenOf pd_0_3 rfl) rfl (by show 2 * 0 + _ ≤ _; exact Nat.le_of_eq rfl) (hb hby at_285) (fun _ _ => ⟨rfl, rfl, (by decide : 1 + 0 ≤ _), (by decide : 1 + 0 ≤ _)⟩)
  dsimp only [Pt.U, Pt.locs, Pt.cells, Pt.slots] at X6 l6 y6 z6 st6 hQ6
  subst l6 y6 z6
  obtain ⟨rfl, N6q, e6⟩ := hQ6      -- what it returned, that it wrote nothing old, and the rest of your Q5
  have N6 := Fr.app N5 N6q
  have Z6 : n0 ≤ T6.heap.size := by rw [e6, e5]; exact Z0
  have F6 : Fld Z T6.heap o4 "com/example/olm/olm/db/Parentheses" "depth" "I" (.int i6) := by rw [e6, e5]; exact F_d
  have Ex6 : Exa Z T6.heap o4 "com/example/olm/olm/db/Parentheses" := by rw [e6, e5]; exact E_o4
  obtain ⟨cq7, kq7, q7a, q7b, q7c⟩ := isOf hZ rfl ((E_o4.keep (own_keep_eq (ws := []) e5)).keep (own_keep_eq (ws := []) e6))
  obtain ⟨_, _, ⟨T7, L7, k7, n7⟩, -, X7, ⟨Lc7, hQ7, l7, y7, z7⟩, st7⟩ := X6.virtualBack hx (y := (⟨"com/example/olm/olm/db/Parentheses", "read", "(C)Z"⟩ : MethodName)) (z := (⟨"com/example/olm/olm/db/Parentheses", "read", "(C)Z"⟩ : MethodName)) hown (mvT hZ (hw _ (List.mem_of_getElem? (i := 23) rfl))) (mvT hZ (hw _ (List.mem_of_getElem? (i := 24) rfl))) (notFace_of_selects (args := #[]) (mvT hZ (hw _ (List.mem_of_getElem? (i := 26) rfl)))) (mvT hZ (hw _ (List.mem_of_getElem? (i := 26) rfl))) (mvT hZ (hw _ (List.mem_of_getElem? (i := 25) rfl))) (by decide) (backOf (W := 0) (rm6 l Z a0 hw [] o4 (own_draw i3) i6 T6.heap n0 Z6 F6 Ex6 g_o4) hZ (hw _ (List.mem_of_getElem? (i := 27) rfl)) (hw _ (List.mem_of_getElem? (i := 2) rfl)) (by decide) (by decide)) q7a q7c (g := (mkF m 288 #[s0, s1, s2, .val (.int i3), .val (.ref o4), .val (.int i5), .val (.int (i6 + (own_delta i3))), .val (.int i7), s8] [(.int (own_draw i3)), (.ref o4)])) rfl (by rw [hml]; rfl) (Steps.refl _) (argsL := [(.int (own_draw i3))]) (rest := []) (lenOf pd_0_4 rfl) rfl (by show 2 * 0 + _ ≤ _; exact Nat.le_of_eq rfl) (hb hby at_288) (fun _ _ => ⟨rfl, rfl, (by decide : 1 + 0 ≤ _), (by decide : 1 + 0 ≤ _)⟩)
  dsimp only [Pt.U, Pt.locs, Pt.cells, Pt.slots] at X7 l7 y7 z7 st7 hQ7
  subst l7 y7 z7
  obtain ⟨rfl, N7q, K7, Ex7, F7⟩ := hQ7      -- what it returned, that it wrote nothing old, and the rest of your Q6
  have N7 := Fr.app N6 N7q
  have F7' : Fld Z T7.heap o4 "com/example/olm/olm/db/Parentheses" "depth" "I" (.int (i6 + own_delta i3)) := own_meet i3 i6 ▸ F7
  obtain ⟨cq8, kq8, q8a, q8b, q8c⟩ := isOf hZ rfl (((E_o4.keep (own_keep_eq (ws := []) e5)).keep (own_keep_eq (ws := []) e6)).keep K7)
  obtain ⟨_, _, ⟨T8, L8, k8, n8⟩, -, X8, ⟨Lc8, hQ8, l8, y8, z8⟩, st8⟩ := X7.virtualBack hx (y := (⟨"com/example/olm/olm/db/Parentheses", "isClosed", "()Z"⟩ : MethodName)) (z := (⟨"com/example/olm/olm/db/Parentheses", "isClosed", "()Z"⟩ : MethodName)) hown (mvT hZ (hw _ (List.mem_of_getElem? (i := 9) rfl))) (mvT hZ (hw _ (List.mem_of_getElem? (i := 10) rfl))) (notFace_of_selects (args := #[]) (mvT hZ (hw _ (List.mem_of_getElem? (i := 12) rfl)))) (mvT hZ (hw _ (List.mem_of_getElem? (i := 12) rfl))) (mvT hZ (hw _ (List.mem_of_getElem? (i := 11) rfl))) (by decide) (backOf (W := 0) (rm3 l Z a0 hw [] o4 (i6 + own_delta i3) T7.heap n0 (Nat.le_trans Z6 K7.1) F7') hZ (hw _ (List.mem_of_getElem? (i := 13) rfl)) (hw _ (List.mem_of_getElem? (i := 2) rfl)) (by decide) (by decide)) q8a q8c (g := (mkF m 315 #[s0, s1, s2, .val (.int i3), .val (.ref o4), .val (.int i5), .val (.int (i6 + (own_delta i3))), .val (.int i7), .val (.int (own_sel (if_icmp.holds .lt (own_read (own_draw i3) i6) (0 : Int32)) (0 : Int32) (1 : Int32)))] [(.ref o4)])) rfl (by rw [hml]; rfl) (Steps.refl _) (argsL := []) (rest := []) (lenOf pd_0_1 rfl) rfl (by show 2 * 0 + _ ≤ _; exact Nat.le_of_eq rfl) (hb hby at_315) (fun _ _ => ⟨rfl, rfl, (by decide : 1 + 0 ≤ _), (by decide : 1 + 0 ≤ _)⟩)
  dsimp only [Pt.U, Pt.locs, Pt.cells, Pt.slots] at X8 l8 y8 z8 st8 hQ8
  subst l8 y8 z8
  obtain ⟨rfl, N8q, e8⟩ := hQ8      -- what it returned, that it wrote nothing old, and the rest of your Q3
  have N8 := Fr.app N7 N8q
  refine ⟨T8, _, _, X8, rfl, N8, (by rw [e8]; exact Nat.le_trans Z6 K7.1), e8.symm ▸ Ex7, e8.symm ▸ F7', fun target kt => ?_⟩
  show Steps p.tables e below (T0.setTop (mkF m 268 #[s0, s1, s2, .val (.int i3), .val (.ref o4), .val (.int i5), .val (.int i6), .val (.int i7), s8] [])) _
  refine XS.iload X0.here hx rfl (hb hby at_268) rfl ?_
  show Steps p.tables e below (T0.setTop (mkF m 270 #[s0, s1, s2, .val (.int i3), .val (.ref o4), .val (.int i5), .val (.int i6), .val (.int i7), s8] [(.int i7)])) _
  refine XS.ifNo X0.here hx rfl (hb hby at_270) rfl ((if0 _ _).trans (feq hc270).1) ?_
  show Steps p.tables e below (T0.setTop (mkF m 273 #[s0, s1, s2, .val (.int i3), .val (.ref o4), .val (.int i5), .val (.int i6), .val (.int i7), s8] [])) _
  refine XS.iload X0.here hx rfl (hb hby at_273) rfl ?_
  show Steps p.tables e below (T0.setTop (mkF m 275 #[s0, s1, s2, .val (.int i3), .val (.ref o4), .val (.int i5), .val (.int i6), .val (.int i7), s8] [(.int i6)])) _
  refine XS.iloadN X0.here hx rfl (hb hby at_275) rfl ?_
  show Steps p.tables e below (T0.setTop (mkF m 276 #[s0, s1, s2, .val (.int i3), .val (.ref o4), .val (.int i5), .val (.int i6), .val (.int i7), s8] [(.int i3), (.int i6)])) _
  refine st5 _ ?_
  show Steps p.tables e below (T5.setTop (mkF m 279 #[s0, s1, s2, .val (.int i3), .val (.ref o4), .val (.int i5), .val (.int i6), .val (.int i7), s8] [(.int (own_delta i3)), (.int i6)])) _
  refine XS.iadd X5.here hx rfl (hb hby at_279) rfl ?_
  show Steps p.tables e below (T5.setTop (mkF m 280 #[s0, s1, s2, .val (.int i3), .val (.ref o4), .val (.int i5), .val (.int i6), .val (.int i7), s8] [(.int (i6 + (own_delta i3)))])) _
  refine XS.istore X5.here hx rfl (hb hby at_280) rfl (l' := #[s0, s1, s2, .val (.int i3), .val (.ref o4), .val (.int i5), .val (.int (i6 + (own_delta i3))), .val (.int i7), s8]) rfl ?_
  show Steps p.tables e below (T5.setTop (mkF m 282 #[s0, s1, s2, .val (.int i3), .val (.ref o4), .val (.int i5), .val (.int (i6 + (own_delta i3))), .val (.int i7), s8] [])) _
  refine XS.aload X5.here hx rfl (hb hby at_282) rfl rfl ?_
  show Steps p.tables e below (T5.setTop (mkF m 284 #[s0, s1, s2, .val (.int i3), .val (.ref o4), .val (.int i5), .val (.int (i6 + (own_delta i3))), .val (.int i7), s8] [(.ref o4)])) _
  refine XS.iloadN X5.here hx rfl (hb hby at_284) rfl ?_
  show Steps p.tables e below (T5.setTop (mkF m 285 #[s0, s1, s2, .val (.int i3), .val (.ref o4), .val (.int i5), .val (.int (i6 + (own_delta i3))), .val (.int i7), s8] [(.int i3), (.ref o4)])) _
  refine st6 _ ?_
  show Steps p.tables e below (T6.setTop (mkF m 288 #[s0, s1, s2, .val (.int i3), .val (.ref o4), .val (.int i5), .val (.int (i6 + (own_delta i3))), .val (.int i7), s8] [(.int (own_draw i3)), (.ref o4)])) _
  refine st7.trans ?_
  show Steps p.tables e below (T7.setTop (mkF m 291 #[s0, s1, s2, .val (.int i3), .val (.ref o4), .val (.int i5), .val (.int (i6 + (own_delta i3))), .val (.int i7), s8] [(.int (own_sel (if_icmp.holds .lt (own_read (own_draw i3) i6) (0 : Int32)) (0 : Int32) (1 : Int32)))])) _
  refine XS.istore X7.here hx rfl (hb hby at_291) rfl (l' := #[s0, s1, s2, .val (.int i3), .val (.ref o4), .val (.int i5), .val (.int (i6 + (own_delta i3))), .val (.int i7), .val (.int (own_sel (if_icmp.holds .lt (own_read (own_draw i3) i6) (0 : Int32)) (0 : Int32) (1 : Int32)))]) (os0_291 hs8) ?_
  show Steps p.tables e below (T7.setTop (mkF m 293 #[s0, s1, s2, .val (.int i3), .val (.ref o4), .val (.int i5), .val (.int (i6 + (own_delta i3))), .val (.int i7), .val (.int (own_sel (if_icmp.holds .lt (own_read (own_draw i3) i6) (0 : Int32)) (0 : Int32) (1 : Int32)))] [])) _
  refine XS.iload X7.here hx rfl (hb hby at_293) rfl ?_
  show Steps p.tables e below (T7.setTop (mkF m 295 #[s0, s1, s2, .val (.int i3), .val (.ref o4), .val (.int i5), .val (.int (i6 + (own_delta i3))), .val (.int i7), .val (.int (own_sel (if_icmp.holds .lt (own_read (own_draw i3) i6) (0 : Int32)) (0 : Int32) (1 : Int32)))] [(.int i5)])) _
  refine XS.ifNo X7.here hx rfl (hb hby at_295) rfl ((if0 _ _).trans (feq hc295).1) ?_
  show Steps p.tables e below (T7.setTop (mkF m 298 #[s0, s1, s2, .val (.int i3), .val (.ref o4), .val (.int i5), .val (.int (i6 + (own_delta i3))), .val (.int i7), .val (.int (own_sel (if_icmp.holds .lt (own_read (own_draw i3) i6) (0 : Int32)) (0 : Int32) (1 : Int32)))] [])) _
  refine XS.iload X7.here hx rfl (hb hby at_298) rfl ?_
  show Steps p.tables e below (T7.setTop (mkF m 300 #[s0, s1, s2, .val (.int i3), .val (.ref o4), .val (.int i5), .val (.int (i6 + (own_delta i3))), .val (.int i7), .val (.int (own_sel (if_icmp.holds .lt (own_read (own_draw i3) i6) (0 : Int32)) (0 : Int32) (1 : Int32)))] [(.int (own_sel (if_icmp.holds .lt (own_read (own_draw i3) i6) (0 : Int32)) (0 : Int32) (1 : Int32)))])) _
  refine XS.iload X7.here hx rfl (hb hby at_300) rfl ?_
  show Steps p.tables e below (T7.setTop (mkF m 302 #[s0, s1, s2, .val (.int i3), .val (.ref o4), .val (.int i5), .val (.int (i6 + (own_delta i3))), .val (.int i7), .val (.int (own_sel (if_icmp.holds .lt (own_read (own_draw i3) i6) (0 : Int32)) (0 : Int32) (1 : Int32)))] [(.int (i6 + (own_delta i3))), (.int (own_sel (if_icmp.holds .lt (own_read (own_draw i3) i6) (0 : Int32)) (0 : Int32) (1 : Int32)))])) _
  refine own_bif X7.here hx rfl (pc0 := 302) rfl (hb hby at_302) (hb hby at_305) (hb hby at_306) (hb hby at_309) rfl ?_
  show Steps p.tables e below (T7.setTop (mkF m 310 #[s0, s1, s2, .val (.int i3), .val (.ref o4), .val (.int i5), .val (.int (i6 + (own_delta i3))), .val (.int i7), .val (.int (own_sel (if_icmp.holds .lt (own_read (own_draw i3) i6) (0 : Int32)) (0 : Int32) (1 : Int32)))] [(.int (own_sel (if_icmp.holds .lt (i6 + (own_delta i3)) (0 : Int32)) (0 : Int32) (1 : Int32))), (.int (own_sel (if_icmp.holds .lt (own_read (own_draw i3) i6) (0 : Int32)) (0 : Int32) (1 : Int32)))])) _
  refine XS.icmpNo X7.here hx rfl (hb hby at_310) rfl (teq (by rw [own_meet] : (own_sel (if_icmp.holds .lt (own_read (own_draw i3) i6) (0 : Int32)) (0 : Int32) (1 : Int32)) = (own_sel (if_icmp.holds .lt (i6 + (own_delta i3)) (0 : Int32)) (0 : Int32) (1 : Int32)))).2 ?_
  show Steps p.tables e below (T7.setTop (mkF m 313 #[s0, s1, s2, .val (.int i3), .val (.ref o4), .val (.int i5), .val (.int (i6 + (own_delta i3))), .val (.int i7), .val (.int (own_sel (if_icmp.holds .lt (own_read (own_draw i3) i6) (0 : Int32)) (0 : Int32) (1 : Int32)))] [])) _
  refine XS.aload X7.here hx rfl (hb hby at_313) rfl rfl ?_
  show Steps p.tables e below (T7.setTop (mkF m 315 #[s0, s1, s2, .val (.int i3), .val (.ref o4), .val (.int i5), .val (.int (i6 + (own_delta i3))), .val (.int i7), .val (.int (own_sel (if_icmp.holds .lt (own_read (own_draw i3) i6) (0 : Int32)) (0 : Int32) (1 : Int32)))] [(.ref o4)])) _
  refine st8.trans ?_
  show Steps p.tables e below (T8.setTop (mkF m 318 #[s0, s1, s2, .val (.int i3), .val (.ref o4), .val (.int i5), .val (.int (i6 + (own_delta i3))), .val (.int i7), .val (.int (own_sel (if_icmp.holds .lt (own_read (own_draw i3) i6) (0 : Int32)) (0 : Int32) (1 : Int32)))] [(.int (own_sel (if_icmp.holds .ne (i6 + own_delta i3) (0 : Int32)) (0 : Int32) (1 : Int32)))])) _
  refine XS.iload X8.here hx rfl (hb hby at_318) rfl ?_
  show Steps p.tables e below (T8.setTop (mkF m 320 #[s0, s1, s2, .val (.int i3), .val (.ref o4), .val (.int i5), .val (.int (i6 + (own_delta i3))), .val (.int i7), .val (.int (own_sel (if_icmp.holds .lt (own_read (own_draw i3) i6) (0 : Int32)) (0 : Int32) (1 : Int32)))] [(.int (i6 + (own_delta i3))), (.int (own_sel (if_icmp.holds .ne (i6 + own_delta i3) (0 : Int32)) (0 : Int32) (1 : Int32)))])) _
  refine own_bif X8.here hx rfl (pc0 := 320) rfl (hb hby at_320) (hb hby at_323) (hb hby at_324) (hb hby at_327) rfl ?_
  show Steps p.tables e below (T8.setTop (mkF m 328 #[s0, s1, s2, .val (.int i3), .val (.ref o4), .val (.int i5), .val (.int (i6 + (own_delta i3))), .val (.int i7), .val (.int (own_sel (if_icmp.holds .lt (own_read (own_draw i3) i6) (0 : Int32)) (0 : Int32) (1 : Int32)))] [(.int (own_sel (if_icmp.holds .ne (i6 + (own_delta i3)) (0 : Int32)) (0 : Int32) (1 : Int32))), (.int (own_sel (if_icmp.holds .ne (i6 + own_delta i3) (0 : Int32)) (0 : Int32) (1 : Int32)))])) _
  refine XS.icmpNo X8.here hx rfl (hb hby at_328) rfl (teq (rfl : (own_sel (if_icmp.holds .ne (i6 + own_delta i3) (0 : Int32)) (0 : Int32) (1 : Int32)) = (own_sel (if_icmp.holds .ne (i6 + (own_delta i3)) (0 : Int32)) (0 : Int32) (1 : Int32)))).2 ?_
  show Steps p.tables e below (T8.setTop (mkF m 331 #[s0, s1, s2, .val (.int i3), .val (.ref o4), .val (.int i5), .val (.int (i6 + (own_delta i3))), .val (.int i7), .val (.int (own_sel (if_icmp.holds .lt (own_read (own_draw i3) i6) (0 : Int32)) (0 : Int32) (1 : Int32)))] [])) _
  refine XS.iconst X8.here hx rfl (hb hby at_331) ?_
  show Steps p.tables e below (T8.setTop (mkF m 332 #[s0, s1, s2, .val (.int i3), .val (.ref o4), .val (.int i5), .val (.int (i6 + (own_delta i3))), .val (.int i7), .val (.int (own_sel (if_icmp.holds .lt (own_read (own_draw i3) i6) (0 : Int32)) (0 : Int32) (1 : Int32)))] [(.int (1 : Int32))])) _
  refine XS.goto X8.here hx rfl (pc0 := 332) (pc' := 336) rfl (hb hby at_332) (by decide) (by decide) ?_
  show Steps p.tables e below (T8.setTop (mkF m 336 #[s0, s1, s2, .val (.int i3), .val (.ref o4), .val (.int i5), .val (.int (i6 + (own_delta i3))), .val (.int i7), .val (.int (own_sel (if_icmp.holds .lt (own_read (own_draw i3) i6) (0 : Int32)) (0 : Int32) (1 : Int32)))] [(.int (1 : Int32))])) _
  refine XS.istore X8.here hx rfl (hb hby at_336) rfl (l' := #[s0, s1, s2, .val (.int i3), .val (.ref o4), .val (.int (1 : Int32)), .val (.int (i6 + (own_delta i3))), .val (.int i7), .val (.int (own_sel (if_icmp.holds .lt (own_read (own_draw i3) i6) (0 : Int32)) (0 : Int32) (1 : Int32)))]) rfl ?_
  exact kt

set_option maxRecDepth 65536 in
set_option maxHeartbeats 40000000 in
theorem tx0_268_338 {p : Program} {l : Launch} {e : Env} {R : Room} {s : State} {m : MethodId} {args : Array Value} {below : List Frame} {meth : Method} {c : Code} {T0 : State} {locs : List Loc} {cells slots : Nat} {Z : State} {a0 : Array Value} {h0 : Heap} (s0 : Slot) (s1 : Slot) (s2 : Slot) (s3 : Slot) (s4 : Slot) (s5 : Slot) (s6 : Slot) (i7 : Int32) (s8 : Slot)
    (X0 : Stand p l e R s m args below meth c T0 locs cells slots) (hx : p.tables.exec = Jvm.exec) (hZ : Z.Warmed39 s.vm) (hw : ∀ d ∈ tables_1, d.before a0 Z = true) (hby : c.code = code) (hml : c.maxLocals = 9) (hown : s.vm.findClass "com/example/olm/olm/db/ParenthesesReadPinLaw" = some m.cls) (e0 : T0.heap = h0) (hc270 : i7 = (0 : Int32)) :
    ∃ (T' : State), Stand p l e R s m args below meth c T' locs cells slots ∧ T'.heap = h0 ∧
      ∀ target, Steps p.tables e below (T'.setTop (mkF m 338 #[s0, s1, s2, s3, s4, s5, s6, .val (.int i7), s8] [])) target → Steps p.tables e below (T0.setTop (mkF m 268 #[s0, s1, s2, s3, s4, s5, s6, .val (.int i7), s8] [])) target := by

  refine ⟨T0, X0, e0, fun target kt => ?_⟩
  show Steps p.tables e below (T0.setTop (mkF m 268 #[s0, s1, s2, s3, s4, s5, s6, .val (.int i7), s8] [])) _
  refine XS.iload X0.here hx rfl (hb hby at_268) rfl ?_
  show Steps p.tables e below (T0.setTop (mkF m 270 #[s0, s1, s2, s3, s4, s5, s6, .val (.int i7), s8] [(.int i7)])) _
  refine XS.ifYes X0.here hx rfl (pc0 := 270) (pc' := 338) rfl (hb hby at_270) rfl ((if0 _ _).trans (teq hc270).1) (by decide) (by decide) ?_
  exact kt

theorem blk_268 {p : Program} {l : Launch} {e : Env} {s : State} {m : MethodId} {args : Array Value} {below : List Frame} {meth : Method} {c : Code} {T0 : State} {locs : List Loc} {Z : State} {a0 : Array Value} {h0 : Heap} (p1 p2 p3 p4 : Int32) (o4 : Addr) (d b : Int32) (s8 : Slot) (n0 : Nat)
    (X0 : Stand p l e room_1 s m args below meth c T0 locs 1 1) (hx : p.tables.exec = Jvm.exec) (hZ : Z.Warmed39 s.vm) (hw : ∀ d ∈ tables_1, d.before a0 Z = true) (hby : c.code = code) (hml : c.maxLocals = 9) (hown : s.vm.findClass "com/example/olm/olm/db/ParenthesesReadPinLaw" = some m.cls) (e0 : T0.heap = h0) (Z0 : n0 ≤ h0.size) (N0 : Fr n0 locs) (g_o4 : n0 ≤ o4) (F_d : Fld Z h0 o4 "com/example/olm/olm/db/Parentheses" "depth" "I" (.int d)) (E_o4 : Exa Z h0 o4 "com/example/olm/olm/db/Parentheses") (hs8 : One s8) :
    ∃ (T' : State) (h' : Heap) (locs' : List Loc) (d' b' : Int32) (s8' : Slot), Stand p l e room_1 s m args below meth c T' locs' 1 1 ∧ T'.heap = h' ∧ Fr n0 locs' ∧ n0 ≤ h'.size ∧ Exa Z h' o4 "com/example/olm/olm/db/Parentheses" ∧ Fld Z h' o4 "com/example/olm/olm/db/Parentheses" "depth" "I" (.int d') ∧ One s8' ∧
      ∀ target, Steps p.tables e below (T'.setTop (mkF m 338 #[.val (.int p1), .val (.int p2), .val (.int p3), .val (.int p4), .val (.ref o4), .val (.int (1 : Int32)), .val (.int d'), .val (.int b'), s8'] [])) target → Steps p.tables e below (T0.setTop (mkF m 268 #[.val (.int p1), .val (.int p2), .val (.int p3), .val (.int p4), .val (.ref o4), .val (.int (1 : Int32)), .val (.int d), .val (.int b), s8] [])) target := by
  by_cases hb0 : b = (0 : Int32)
  · obtain ⟨T', X', e', st⟩ := tx0_268_338 (.val (.int p1)) (.val (.int p2)) (.val (.int p3)) (.val (.int p4)) (.val (.ref o4)) (.val (.int (1 : Int32))) (.val (.int d)) b s8 X0 hx hZ hw hby hml hown e0 hb0
    exact ⟨T', h0, locs, d, b, s8, X', e', N0, Z0, E_o4, F_d, hs8, st⟩
  · obtain ⟨T', h', locs', X', e', N', Z', E', F', st⟩ := tn0_268_338 (.val (.int p1)) (.val (.int p2)) (.val (.int p3)) p4 o4 (1 : Int32) d b s8 n0 X0 hx hZ hw hby hml hown e0 Z0 N0 g_o4 F_d E_o4 hs8 hb0 (by decide)
    exact ⟨T', h', locs', _, _, _, X', e', N', Z', E', F', One.val rfl, st⟩
def Q0 (Z : State) (p1 : Int32) (p2 : Int32) (p3 : Int32) (p4 : Int32) (h0 : Heap) (n0 : Nat) (v : Option Value) (h : Heap) (L : List Loc) : Prop := v = some (.int (1 : Int32)) ∧ Fr n0 L
set_option maxRecDepth 65536 in
set_option maxHeartbeats 40000000 in
theorem rm0 (l : Launch) (Z : State) (a0 : Array Value) (hw : ∀ d ∈ tables_1, d.before a0 Z = true) (ws : List Jvm.Cond) (p1 : Int32) (p2 : Int32) (p3 : Int32) (p4 : Int32) (h0 : Heap) (n0 : Nat) (Z0 : n0 ≤ h0.size) :
    MetFree l x (head1 (Jvm.Cond.code x code maxLocals ret :: ws) room_1) (fun a U => a = #[(.int p1), (.int p2), (.int p3), (.int p4)] ∧ Z.Warmed39 U.vm ∧ U.heap = h0) (fun _ _ _ _ _ => True) (fun _ U o U' => ∃ v L, o = .returned v ∧ Q0 Z p1 p2 p3 p4 h0 n0 v U'.heap L ∧ FrameEnd U o U' L room_1.cells room_1.slots) := by
  refine MetFree.of_bodySF (plainFor_of_name pn_0) hisR ?_
  intro p e s m args below meth c s₁ Bd hml0 hP hK
  obtain ⟨rfl, hZ, hh⟩ := hP
  have hx := Bd.exec
  have hby := Bd.bytes
  have hml : c.maxLocals = 9 := hml0
  have hown : s.vm.findClass "com/example/olm/olm/db/ParenthesesReadPinLaw" = some m.cls := findClass_of_methodNamed Bd.named
  have hnm := (name_of_methodNamed Bd.named Bd.method).1
  have X0 : Stand p l e room_1 s m #[(.int p1), (.int p2), (.int p3), (.int p4)] below meth c s₁ [] 0 0 := Stand.of_body Bd
  have e0 : s₁.heap = h0 := by rw [← hh, Bd.state]; rfl
  have N0 := Fr.nil n0
  have pre0 : ∀ t, Steps p.tables e below (s₁.setTop (mkF m 0 #[.val (.int p1), .val (.int p2), .val (.int p3), .val (.int p4), .unset, .unset, .unset, .unset, .unset] [])) t → Steps p.tables e below (s₁.setTop (entryFrame m #[(.int p1), (.int p2), (.int p3), (.int p4)] maxLocals)) t := fun t k => castTop (ef_0 m p1 p2 p3 p4) k
  obtain ⟨T5, h5, X5, e5, E5, A5, D5, -, st5⟩ := newO X0 hx hZ hown (hw _ (List.mem_of_getElem? (i := 0) rfl)) (hw _ (List.mem_of_getElem? (i := 1) rfl)) (hw _ (List.mem_of_getElem? (i := 2) rfl)) e0 (g := (mkF m 0 #[.val (.int p1), .val (.int p2), .val (.int p3), .val (.int p4), .unset, .unset, .unset, .unset, .unset] [])) rfl (hb hby at_0) (by decide) (by decide)
  obtain ⟨b5, g5⟩ : ∃ z, z = h0.size := ⟨_, rfl⟩      -- the fresh object's address
  rw [← g5] at A5 D5 st5      -- A5 : Exa Z h5 b5 "com/example/olm/olm/db/Parentheses"; E5 : Ext h0 h5 (carries every older fact: .ext E5)
  have F_depth_b5 : Fld Z h5 b5 "com/example/olm/olm/db/Parentheses" "depth" "I" (.int (0 : Int32)) := D5 (Or.inl (hw _ (List.mem_of_getElem? (i := 15) rfl))) (ty := .int) (by decide)
  have E_b5 := A5
  have g_b5 : n0 ≤ b5 := Nat.le_trans Z0 (Nat.le_of_eq g5.symm)
  have sz_b5 : h0.size ≤ b5 := (Nat.le_trans (Keep.refl h0 []).1 (Nat.le_of_eq g5.symm))
  have K5 : Keep h0 h5 [] := (Keep.refl h0 []).ext E5
  obtain ⟨_, _, ⟨T6, L6, k6, n6⟩, -, X6, ⟨Lc6, hQ6, l6, y6, z6⟩, st6⟩ := X5.specialBack hx (y := (⟨"com/example/olm/olm/db/Parentheses", "<init>", "()V"⟩ : MethodName)) rfl hown (mvT hZ (hw _ (List.mem_of_getElem? (i := 3) rfl))) (mvT hZ (hw _ (List.mem_of_getElem? (i := 4) rfl))) (mvT hZ (hw _ (List.mem_of_getElem? (i := 5) rfl))) (by decide) (backOf (W := 1) (rm1 l Z a0 hw [] b5  h5 n0 (Nat.le_trans Z0 E5.1)) hZ (hw _ (List.mem_of_getElem? (i := 5) rfl)) (hw _ (List.mem_of_getElem? (i := 2) rfl)) (by decide) (by decide)) (g := (mkF m 4 #[.val (.int p1), .val (.int p2), .val (.int p3), .val (.int p4), .unset, .unset, .unset, .unset, .unset] [(.ref b5), (.ref b5)])) rfl (by rw [hml]; rfl) (Steps.refl _) (a := b5) (argsL := []) (rest := [(.ref b5)]) (lenOf pd_0_0 rfl) rfl (by show 2 * 0 + _ ≤ _; exact Nat.le_of_eq rfl) (hb hby at_4) (fun _ _ => ⟨rfl, e5, (by decide : 1 + 0 ≤ _), (by decide : 1 + 0 ≤ _)⟩)
  dsimp only [Pt.U, Pt.locs, Pt.cells, Pt.slots] at X6 l6 y6 z6 st6 hQ6
  subst l6 y6 z6
  obtain ⟨rfl, N6q, e6⟩ := hQ6      -- what it returned, that it wrote nothing old, and the rest of your Q1
  have N6 := Fr.app N0 N6q
  have Z6 : n0 ≤ T6.heap.size := by rw [e6]; exact Nat.le_trans Z0 E5.1
  have F6 : Fld Z T6.heap b5 "com/example/olm/olm/db/Parentheses" "depth" "I" (.int (0 : Int32)) := by rw [e6]; exact F_depth_b5
  have Ex6 : Exa Z T6.heap b5 "com/example/olm/olm/db/Parentheses" := by rw [e6]; exact E_b5
  obtain ⟨cq7, kq7, q7a, q7b, q7c⟩ := isOf hZ rfl (E_b5.keep (own_keep_eq (ws := []) e6))
  obtain ⟨_, _, ⟨T7, L7, k7, n7⟩, -, X7, ⟨Lc7, hQ7, l7, y7, z7⟩, st7⟩ := X6.virtualBack hx (y := (⟨"com/example/olm/olm/db/Parentheses", "isClosed", "()Z"⟩ : MethodName)) (z := (⟨"com/example/olm/olm/db/Parentheses", "isClosed", "()Z"⟩ : MethodName)) hown (mvT hZ (hw _ (List.mem_of_getElem? (i := 9) rfl))) (mvT hZ (hw _ (List.mem_of_getElem? (i := 10) rfl))) (notFace_of_selects (args := #[]) (mvT hZ (hw _ (List.mem_of_getElem? (i := 12) rfl)))) (mvT hZ (hw _ (List.mem_of_getElem? (i := 12) rfl))) (mvT hZ (hw _ (List.mem_of_getElem? (i := 11) rfl))) (by decide) (backOf (W := 0) (rm3 l Z a0 hw [] b5 (0 : Int32) T6.heap n0 Z6 F6) hZ (hw _ (List.mem_of_getElem? (i := 13) rfl)) (hw _ (List.mem_of_getElem? (i := 2) rfl)) (by decide) (by decide)) q7a q7c (g := (mkF m 11 #[.val (.int p1), .val (.int p2), .val (.int p3), .val (.int p4), .val (.ref b5), .unset, .unset, .unset, .unset] [(.ref b5)])) rfl (by rw [hml]; rfl) (Steps.refl _) (argsL := []) (rest := []) (lenOf pd_0_1 rfl) rfl (by show 2 * 0 + _ ≤ _; exact Nat.le_of_eq rfl) (hb hby at_11) (fun _ _ => ⟨rfl, rfl, (by decide : 1 + 0 ≤ _), (by decide : 1 + 0 ≤ _)⟩)
  dsimp only [Pt.U, Pt.locs, Pt.cells, Pt.slots] at X7 l7 y7 z7 st7 hQ7
  subst l7 y7 z7
  obtain ⟨rfl, N7q, e7⟩ := hQ7      -- what it returned, that it wrote nothing old, and the rest of your Q3
  have N7 := Fr.app N6 N7q
  have Z7 : n0 ≤ T7.heap.size := by rw [e7]; exact Z6
  have F7 : Fld Z T7.heap b5 "com/example/olm/olm/db/Parentheses" "depth" "I" (.int (0 : Int32)) := by rw [e7]; exact F6
  have Ex7 : Exa Z T7.heap b5 "com/example/olm/olm/db/Parentheses" := by rw [e7]; exact Ex6
  obtain ⟨TA, hA, LA, dA, bA, sA, XA, eA, NA, ZA, EA, FA, OA, stA⟩ := blk_22 p1 p2 p3 p4 b5 (0 : Int32) (1 : Int32) .unset n0 X7 hx hZ hw hby hml hown rfl Z7 N7 g_b5 F7 Ex7 One.u
  obtain ⟨TB, hB, LB, dB, bB, sB, XB, eB, NB, ZB, EB, FB, OB, stB⟩ := blk_104 p1 p2 p3 p4 b5 dA bA sA n0 XA hx hZ hw hby hml hown eA ZA NA g_b5 FA EA OA
  obtain ⟨TC, hC, LC, dC, bC, sC, XC, eC, NC, ZC, EC, FC, OC, stC⟩ := blk_186 p1 p2 p3 p4 b5 dB bB sB n0 XB hx hZ hw hby hml hown eB ZB NB g_b5 FB EB OB
  obtain ⟨TD, hD, LD, dD, bD, sD, XD, eD, ND, ZD, ED, FD, OD, stD⟩ := blk_268 p1 p2 p3 p4 b5 dC bC sC n0 XC hx hZ hw hby hml hown eC ZC NC g_b5 FC EC OC
  obtain ⟨fs, hr, hrun, hended, hW, hsame⟩ := XD.leave (v := some (.int (1 : Int32))) (fun h => by rw [Bd.returns] at h; cases h)
  refine ⟨_, _, pre0 _ ?_, hrun, hended, _, _, rfl, ?_, ⟨_, rfl⟩, hW, hsame.mono (by decide) (by decide)⟩
  · show Steps p.tables e below (s₁.setTop (mkF m 0 #[.val (.int p1), .val (.int p2), .val (.int p3), .val (.int p4), .unset, .unset, .unset, .unset, .unset] [])) _
    refine st5 _ ?_
    show Steps p.tables e below (T5.setTop (mkF m 3 #[.val (.int p1), .val (.int p2), .val (.int p3), .val (.int p4), .unset, .unset, .unset, .unset, .unset] [(.ref b5)])) _
    refine XS.dup X5.here hx rfl (hb hby at_3) rfl rfl ?_
    show Steps p.tables e below (T5.setTop (mkF m 4 #[.val (.int p1), .val (.int p2), .val (.int p3), .val (.int p4), .unset, .unset, .unset, .unset, .unset] [(.ref b5), (.ref b5)])) _
    refine st6.trans ?_
    show Steps p.tables e below (T6.setTop (mkF m 7 #[.val (.int p1), .val (.int p2), .val (.int p3), .val (.int p4), .unset, .unset, .unset, .unset, .unset] [(.ref b5)])) _
    refine XS.astore X6.here hx rfl (hb hby at_7) rfl rfl (l' := #[.val (.int p1), .val (.int p2), .val (.int p3), .val (.int p4), .val (.ref b5), .unset, .unset, .unset, .unset]) rfl ?_
    show Steps p.tables e below (T6.setTop (mkF m 9 #[.val (.int p1), .val (.int p2), .val (.int p3), .val (.int p4), .val (.ref b5), .unset, .unset, .unset, .unset] [])) _
    refine XS.aload X6.here hx rfl (hb hby at_9) rfl rfl ?_
    show Steps p.tables e below (T6.setTop (mkF m 11 #[.val (.int p1), .val (.int p2), .val (.int p3), .val (.int p4), .val (.ref b5), .unset, .unset, .unset, .unset] [(.ref b5)])) _
    refine st7.trans ?_
    show Steps p.tables e below (T7.setTop (mkF m 14 #[.val (.int p1), .val (.int p2), .val (.int p3), .val (.int p4), .val (.ref b5), .unset, .unset, .unset, .unset] [(.int (1 : Int32))])) _
    refine XS.istore X7.here hx rfl (hb hby at_14) rfl (l' := #[.val (.int p1), .val (.int p2), .val (.int p3), .val (.int p4), .val (.ref b5), .val (.int (1 : Int32)), .unset, .unset, .unset]) rfl ?_
    show Steps p.tables e below (T7.setTop (mkF m 16 #[.val (.int p1), .val (.int p2), .val (.int p3), .val (.int p4), .val (.ref b5), .val (.int (1 : Int32)), .unset, .unset, .unset] [])) _
    refine XS.iconst X7.here hx rfl (hb hby at_16) ?_
    show Steps p.tables e below (T7.setTop (mkF m 17 #[.val (.int p1), .val (.int p2), .val (.int p3), .val (.int p4), .val (.ref b5), .val (.int (1 : Int32)), .unset, .unset, .unset] [(.int (0 : Int32))])) _
    refine XS.istore X7.here hx rfl (hb hby at_17) rfl (l' := #[.val (.int p1), .val (.int p2), .val (.int p3), .val (.int p4), .val (.ref b5), .val (.int (1 : Int32)), .val (.int (0 : Int32)), .unset, .unset]) rfl ?_
    show Steps p.tables e below (T7.setTop (mkF m 19 #[.val (.int p1), .val (.int p2), .val (.int p3), .val (.int p4), .val (.ref b5), .val (.int (1 : Int32)), .val (.int (0 : Int32)), .unset, .unset] [])) _
    refine XS.iconst X7.here hx rfl (hb hby at_19) ?_
    show Steps p.tables e below (T7.setTop (mkF m 20 #[.val (.int p1), .val (.int p2), .val (.int p3), .val (.int p4), .val (.ref b5), .val (.int (1 : Int32)), .val (.int (0 : Int32)), .unset, .unset] [(.int (1 : Int32))])) _
    refine XS.istore X7.here hx rfl (hb hby at_20) rfl (l' := #[.val (.int p1), .val (.int p2), .val (.int p3), .val (.int p4), .val (.ref b5), .val (.int (1 : Int32)), .val (.int (0 : Int32)), .val (.int (1 : Int32)), .unset]) rfl ?_
    show Steps p.tables e below (T7.setTop (mkF m 22 #[.val (.int p1), .val (.int p2), .val (.int p3), .val (.int p4), .val (.ref b5), .val (.int (1 : Int32)), .val (.int (0 : Int32)), .val (.int (1 : Int32)), .unset] [])) _
    refine stA _ ?_
    refine stB _ ?_
    refine stC _ ?_
    refine stD _ ?_
    show Steps p.tables e below (TD.setTop (mkF m 338 #[.val (.int p1), .val (.int p2), .val (.int p3), .val (.int p4), .val (.ref b5), .val (.int (1 : Int32)), .val (.int dD), .val (.int bD), sD] [])) _
    refine XS.iload XD.here hx rfl (hb hby at_338) rfl ?_
    show Steps p.tables e below (TD.setTop (mkF m 340 #[.val (.int p1), .val (.int p2), .val (.int p3), .val (.int p4), .val (.ref b5), .val (.int (1 : Int32)), .val (.int dD), .val (.int bD), sD] [(.int (1 : Int32))])) _
    exact retN XD hx (t := .boolean) Bd.returns (by simp) (hb hby at_340) hr
  · show Q0 Z p1 p2 p3 p4 h0 n0 _ TD.heap _
    exact ⟨rfl, ND⟩

set_option maxRecDepth 65536 in
set_option maxHeartbeats 40000000 in
theorem comes_1 {Post : Tables → Env → Array Value → State → Outcome → State → Prop} (hpost : ∀ tb e args s v u, (limb_1_1.after args s (.returned v) u = true ∧ limb_1_2.after args s (.returned v) u = true ∧ True) → FrameEnd s (.returned v) u (Jvm.fieldLocs frame_1_writes args s ++ Jvm.arrayLocs frame_1_arrays args s ++ Jvm.staticLocs frame_1_statics s) 16 128 → Post tb e args s (.returned v) u) :
    ArmFor flags0 classFile x code maxLocals ret World_1 tables_1 room_1 Calls_1 rest_1 Pre_1 Post := by
  intro l hfl _ _ p e ha hc hk s m args below hf hA hF happ hP
  obtain ⟨hcalls, hrest, hpre⟩ := hP
  obtain ⟨-, -, -, hnamed, -, -, -, hat⟩ := (Spec.applies_iff hf).mp happ
  obtain ⟨hg, hn⟩ := and_e (Cond.before_iff.mp (show (Jvm.Cond.and given_1 narrow_1).before args s = true from hpre))
  obtain ⟨g8, g9⟩ := and_e hg
  obtain ⟨g10, g11⟩ := and_e g9
  obtain ⟨g12, g13⟩ := and_e g11
  obtain ⟨g14, g15⟩ := and_e g13
  obtain ⟨w0, w1, w2, w3, rfl⟩ : ∃ w0 w1 w2 w3 : Value, args = #[w0, w1, w2, w3] := by
    have hs : args.size = 4 := by simpa [Cond.value, given_1] using g8
    obtain ⟨L⟩ := args
    match L, hs with
    | [w0, w1, w2, w3], _ => exact ⟨w0, w1, w2, w3, rfl⟩
  have hw := fun d (hd : d ∈ tables_1) => atoms_spec (ws := Jvm.Cond.code x code maxLocals ret :: tables_1) hat d (List.mem_cons_of_mem _ hd)
  have hfit : Fit s := fun {y c} hc i hi => by
    obtain ⟨ha, rfl⟩ := Array.getElem?_eq_some_iff.mp hc
    have q := List.all_eq_true.mp ((Array.all_eq_true_iff_forall_mem.mp hF) _ (Array.getElem_mem ha)) i (List.mem_range.mpr hi)
    simpa [Array.getElem?_eq_getElem hi] using q
  obtain ⟨i0, ei0⟩ := is_v g10
  obtain rfl : w0 = (.int i0) := Option.some.inj ei0
  obtain ⟨i1, ei1⟩ := is_v g12
  obtain rfl : w1 = (.int i1) := Option.some.inj ei1
  obtain ⟨i2, ei2⟩ := is_v g14
  obtain rfl : w2 = (.int i2) := Option.some.inj ei2
  obtain ⟨i3, ei3⟩ := is_v g15
  obtain rfl : w3 = (.int i3) := Option.some.inj ei3
  obtain ⟨n, o, h1, h2, h3, _, L, rfl, ⟨rfl, N⟩, hq⟩ := rm0 l s _ hw tables_1 i0 i1 i2 i3 s.heap s.heap.size (Nat.le_refl _) p e ha hc hk s m _ below hf ((Spec.applies_iff_loose hf).mp happ).1 ⟨rfl, State.Warmed39.refl s, rfl⟩ trivial
  refine ⟨n, _, h1, h2, h3, hpost _ _ _ _ _ _ ⟨Cond.after_iff.mpr rfl, Cond.after_iff.mpr (eq_i res_at (Term.int_eval (1)) rfl), trivial⟩ ⟨hq.1, hq.2.1, (hq.2.2.sift fun y hy => Or.inr (N y hy)).mono (by decide) (by decide)⟩⟩
theorem main_1_1 : Claimed_1_1 := comes_1 fun _ _ _ _ _ _ h hF => ⟨h.1, hF⟩
theorem main_1_2 : Claimed_1_2 := comes_1 fun _ _ _ _ _ _ h hF => ⟨h.2.1, hF⟩
end Jvm.Pilot.@@N@@
namespace Jvm.Pilot.@@N@@
open Jvm Jvm.ClassFile Sem Op Lib Jvm.Free Jvm.Stand Jvm.Pilot.@@N@@.Jvm.D
/-! MADE BY PROGRAM (witnessworld.py) out of the Statement's table words and the real class files: 9 classes; the members and pool entries that the words name. The judged class is class 1, her method 3. -/
namespace start1
open Jvm.ClassFile
def u (s : String) : CpInfo := .utf8 (stringToUtf16 s)
/-- a pool by its gaps: so many unusable entries, then the entry; so many at the end -/
def gap : Nat → List CpInfo → List CpInfo
  | 0, r => r
  | n + 1, r => .unusable :: gap n r
def poolList (es : List (Nat × CpInfo)) (last : Nat) : List CpInfo := es.foldr (fun e r => gap e.1 (e.2 :: r)) (gap last [])
def pool (es : List (Nat × CpInfo)) (last : Nat) : Array CpInfo := ⟨poolList es last⟩
def fileOf (pool : Array CpInfo) (this : Nat) (attrs : Array Attribute := #[]) (ms : Array MethodInfo := #[]) (fl : Nat := 33) (sup : Nat := 0) (ifs : Array Nat := #[]) (fds : Array FieldInfo := #[]) : ClassFile where
  minorVersion := 0
  majorVersion := 65
  constantPool := pool
  accessFlags := fl
  thisClass := this
  superClass := sup
  interfaces := ifs
  fields := fds
  methods := ms
  attributes := attrs
def plain (name : String) (sup : Option ClassId) : Class where
  name := name
  kind := .ordinary
  loader := none
  accessFlags := 33
  super := sup
  interfaces := #[]
  cf := none
  fields := #[]
  methods := #[]
  instanceTypes := #[]
  staticTypes := #[]
  resolved := #[]
  callSites := []
  init := .initialized
  statics := none
  mirror := none

def pool0 : Array CpInfo := pool [(5, u "<init>"), (0, u "()V"), (1, .class_ 10), (1, u "java/lang/Object")] 113

def k0c0 : Code := { maxStack := 0, maxLocals := 1, code := object_method_1_code, exceptionTable := #[], attributes := #[] }
def k0m0 : Method := { name := "<init>", desc := "()V", sig := { parameters := [], returnType := none }, accessFlags := 1, code := some k0c0 }
/-- java/lang/Object -/
def k0 : Class := { plain "java/lang/Object" none with
  accessFlags := 33
  interfaces := #[]
  cf := some (fileOf pool0 8 #[] #[{ accessFlags := 1, nameIndex := 5, descriptorIndex := 6, attributes := #[] }] 33 0 #[] #[])
  fields := #[]
  methods := #[k0m0]
  instanceTypes := #[]
  staticTypes := #[]
  resolved := Array.replicate 124 none
  statics := none }

def pool1 : Array CpInfo := pool [(2, .class_ 4), (0, .nameAndType 5 6), (0, u "java/lang/Object"), (0, u "<init>"), (0, u "()V"), (0, .class_ 8), (0, u "com/example/olm/olm/db/Parentheses"), (0, .methodref 7 3), (0, .methodref 7 11), (0, .nameAndType 12 13), (0, u "isClosed"), (0, u "()Z"), (0, .methodref 15 16), (0, .class_ 17), (0, .nameAndType 18 19), (0, u "com/example/olm/olm/db/ParenthesesReadPinLaw"), (0, u "delta"), (0, u "(I)I"), (0, .methodref 15 21), (0, .nameAndType 22 23), (0, u "draw"), (0, u "(I)C"), (0, .methodref 7 25), (0, .nameAndType 26 27), (0, u "read"), (0, u "(C)Z"), (3, u "law"), (0, u "(IIII)Z")] 2

def k1m0 : Method := { name := "<init>", desc := "()V", sig := { parameters := [], returnType := none }, accessFlags := 1, code := none }
def k1c1 : Code := { maxStack := 2, maxLocals := 3, code := method_2_code, exceptionTable := #[], attributes := #[] }
def k1m1 : Method := { name := "draw", desc := "(I)C", sig := { parameters := [.int], returnType := some .char }, accessFlags := 10, code := some k1c1 }
def k1c2 : Code := { maxStack := 2, maxLocals := 2, code := method_3_code, exceptionTable := #[], attributes := #[] }
def k1m2 : Method := { name := "delta", desc := "(I)I", sig := { parameters := [.int], returnType := some .int }, accessFlags := 10, code := some k1c2 }
def k1c3 : Code := { maxStack := 2, maxLocals := 9, code := code, exceptionTable := #[], attributes := #[] }
def k1m3 : Method := { name := "law", desc := "(IIII)Z", sig := { parameters := [.int, .int, .int, .int], returnType := some .boolean }, accessFlags := 9, code := some k1c3 }
/-- com/example/olm/olm/db/ParenthesesReadPinLaw -/
def k1 : Class := { plain "com/example/olm/olm/db/ParenthesesReadPinLaw" (some 0) with
  accessFlags := 49
  interfaces := #[]
  cf := some (fileOf pool1 15 #[] #[{ accessFlags := 1, nameIndex := 5, descriptorIndex := 6, attributes := #[] }, { accessFlags := 10, nameIndex := 22, descriptorIndex := 23, attributes := #[] }, { accessFlags := 10, nameIndex := 18, descriptorIndex := 19, attributes := #[] }, { accessFlags := 9, nameIndex := 31, descriptorIndex := 32, attributes := #[] }] 49 2 #[] #[])
  fields := #[]
  methods := #[k1m0, k1m1, k1m2, k1m3]
  instanceTypes := #[]
  staticTypes := #[]
  resolved := Array.replicate 35 none
  statics := none }

def pool2 : Array CpInfo := pool [(1, .methodref 2 3), (0, .class_ 4), (0, .nameAndType 5 6), (0, u "java/lang/Object"), (0, u "<init>"), (0, u "()V"), (0, .fieldref 8 9), (0, .class_ 10), (0, .nameAndType 11 12), (0, u "com/example/olm/olm/db/Parentheses"), (0, u "depth"), (0, u "I"), (2, u "read"), (0, u "(C)Z"), (1, u "isClosed"), (0, u "()Z")] 2

def k2c0 : Code := { maxStack := 1, maxLocals := 1, code := prog_28_method_1_code, exceptionTable := #[], attributes := #[] }
def k2m0 : Method := { name := "<init>", desc := "()V", sig := { parameters := [], returnType := none }, accessFlags := 1, code := some k2c0 }
def k2c1 : Code := { maxStack := 3, maxLocals := 2, code := prog_28_method_2_code, exceptionTable := #[], attributes := #[] }
def k2m1 : Method := { name := "read", desc := "(C)Z", sig := { parameters := [.char], returnType := some .boolean }, accessFlags := 1, code := some k2c1 }
def k2c2 : Code := { maxStack := 1, maxLocals := 1, code := prog_28_method_3_code, exceptionTable := #[], attributes := #[] }
def k2m2 : Method := { name := "isClosed", desc := "()Z", sig := { parameters := [], returnType := some .boolean }, accessFlags := 1, code := some k2c2 }
/-- com/example/olm/olm/db/Parentheses -/
def k2 : Class := { plain "com/example/olm/olm/db/Parentheses" (some 0) with
  accessFlags := 49
  interfaces := #[]
  cf := some (fileOf pool2 8 #[] #[{ accessFlags := 1, nameIndex := 5, descriptorIndex := 6, attributes := #[] }, { accessFlags := 1, nameIndex := 15, descriptorIndex := 16, attributes := #[] }, { accessFlags := 1, nameIndex := 18, descriptorIndex := 19, attributes := #[] }] 49 2 #[] #[{ accessFlags := 2, nameIndex := 11, descriptorIndex := 12, attributes := #[] }])
  fields := #[{ name := "depth", type := .int, accessFlags := 2, slot := 0, constantValue := 0 }]
  methods := #[k2m0, k2m1, k2m2]
  instanceTypes := #[.int]
  staticTypes := #[]
  resolved := Array.replicate 22 none
  statics := none }

def pool3 : Array CpInfo := pool [(1, u "java/lang/Cloneable"), (0, .class_ 1), (0, u "java/lang/Object"), (0, .class_ 3)] 3

/-- java/lang/Cloneable -/
def k3 : Class := { plain "java/lang/Cloneable" (some 0) with
  accessFlags := 1537
  interfaces := #[]
  cf := some (fileOf pool3 2 #[] #[] 1537 4 #[] #[])
  fields := #[]
  methods := #[]
  instanceTypes := #[]
  staticTypes := #[]
  resolved := Array.replicate 8 none
  statics := none }

def pool4 : Array CpInfo := pool [(1, u "java/io/Serializable"), (0, .class_ 1), (0, u "java/lang/Object"), (0, .class_ 3)] 3

/-- java/io/Serializable -/
def k4 : Class := { plain "java/io/Serializable" (some 0) with
  accessFlags := 1537
  interfaces := #[]
  cf := some (fileOf pool4 2 #[] #[] 1537 4 #[] #[])
  fields := #[]
  methods := #[]
  instanceTypes := #[]
  staticTypes := #[]
  resolved := Array.replicate 8 none
  statics := none }

/-- the primitive byte -/
def k5 : Class := { plain "byte" none with kind := .primitive 'B', accessFlags := 0x411 }
/-- [B -/
def k6 : Class := { plain "[B" (some 0) with kind := .array 5 .byte, interfaces := #[3, 4], accessFlags := 1041 }

/-- the primitive int -/
def k7 : Class := { plain "int" none with kind := .primitive 'I', accessFlags := 0x411 }
/-- [I -/
def k8 : Class := { plain "[I" (some 0) with kind := .array 7 .int, interfaces := #[3, 4], accessFlags := 1041 }

def heap : Heap := #[]
def classes : Array Class := #[k0, k1, k2, k3, k4, k5, k6, k7, k8]
def interned : List (Array UInt16 × Addr) := []
def slotsUsed : Nat := 0
def theMethod : MethodId := ⟨1, 3⟩
def args0 : Array Value := #[.int 5, .int 3, .int 0, .int 1]
def aboutOver (below : List Frame) : State where
  vm := { classes := classes, interned := interned.toArray }
  heap := heap
  slotsUsed := slotsUsed
  threads := #[{ frames := .invoking theMethod args0 :: below }]
def below0 : List Frame := [.native { method := ⟨0, 0⟩, args := #[] }]
def about1 : State := aboutOver below0
def p0 : Program := .bare "" "" ""
def e0 : Env := launch0.env 0 0 0
theorem w_frames : about1.frames = Frame.invoking theMethod args0 :: below0 := rfl
set_option maxRecDepth 65536 in
theorem w_args : argsFit about1.vm theMethod args0 = true := by decide +kernel
set_option maxRecDepth 65536 in
theorem w_heap : heapFits about1 = true := by decide +kernel
set_option maxRecDepth 65536 in
theorem w_runnable : about1.curStatus? = some .runnable := by decide +kernel
set_option maxRecDepth 65536 in
theorem w_alone : about1.alone = true := by decide +kernel
set_option maxRecDepth 65536 in
theorem w_named : about1.methodNamed? x = some theMethod := by decide +kernel
set_option maxRecDepth 65536 in
theorem w_hears : about1.hears theMethod below0 = true := by decide +kernel
set_option maxRecDepth 65536 in
theorem w_ripe : about1.ripe theMethod args0 below0 = true := by decide +kernel
theorem w_running : about1.status = .running := rfl
set_option maxRecDepth 65536 in
theorem w_room : about1.hasRoom e0.platform room_1 = true :=
  launch0.hasRoom_least _ room_1 (by decide +kernel) (by decide +kernel) (by decide +kernel) (by decide +kernel) (by decide +kernel) (by decide +kernel)
theorem allAtoms_all (ts : List Jvm.Cond) (a : Array Jvm.Value) (st : Jvm.State) : (allAtoms ts).before a st = ts.all (fun c => c.before a st) := by
  induction ts with
  | nil => rfl
  | cons c t ih =>
    show (Jvm.Cond.and c (allAtoms t)).before a st = _
    rw [Jvm.Cond.before_and, ih, List.all_cons]
def words1 : List Jvm.Cond := Jvm.Cond.code x code maxLocals ret :: tables_1
/-- a 'code' word, met by the world's own term for the bytes: nothing is compared byte by byte -/
theorem code_word {y : MethodName} {bytes : ByteArray} {mx : Nat} {rt : Option FieldType} {a : Array Value} {s : State} {m : MethodId} {meth : Method} {c : Code} (h1 : s.methodNamed? y = some m) (h2 : s.vm.method? m = some meth) (h3 : meth.code = some c) (h4 : c.code = bytes)
    (h5 : (c.maxLocals == mx && c.exceptionTable.isEmpty && decide (c.maxStack ≤ mostOperands) && decide (meth.sig.returnType = rt) && !meth.locks && decide (parseMethodDescriptor y.desc = some meth.sig)) = true) : (Jvm.Cond.code y bytes mx rt).before a s = true := by
  simp only [Bool.and_eq_true, beq_iff_eq, Bool.not_eq_true', decide_eq_true_eq] at h5
  obtain ⟨⟨⟨⟨⟨g1, g2⟩, g3⟩, g4⟩, g5⟩, g6⟩ := h5
  simp [Cond.before, Cond.holds, Cond.value, h1, h2, h3, h4, g1, g2, g3, g4, g5, g6]
def isCode : Jvm.Cond → Bool
  | .code _ _ _ _ => true
  | _ => false
theorem all_split {L : List Jvm.Cond} {P : Jvm.Cond → Bool} (h1 : L.all (fun c => isCode c || P c) = true) (h2 : ∀ c ∈ L.filter isCode, P c = true) : L.all P = true := by
  refine List.all_eq_true.mpr fun c hc => ?_
  have h := List.all_eq_true.mp h1 c hc
  rcases Bool.eq_false_or_eq_true (isCode c) with hi | hi
  · exact h2 c (List.mem_filter.mpr ⟨hc, hi⟩)
  · simpa [hi] using h
set_option maxRecDepth 65536 in
theorem w_c0 : (Jvm.Cond.code x code maxLocals ret).before args0 about1 = true := code_word (m := ⟨1, 3⟩) (meth := k1m3) (c := k1c3) (by decide +kernel) rfl rfl rfl (by decide +kernel)
set_option maxRecDepth 65536 in
theorem w_c1 : (Jvm.Cond.code ({ cls := "com/example/olm/olm/db/Parentheses", name := "<init>", desc := "()V" } : Jvm.MethodName) prog_28_method_1_code (1 : Nat) (Option.none : Option Jvm.ClassFile.FieldType)).before args0 about1 = true := code_word (m := ⟨2, 0⟩) (meth := k2m0) (c := k2c0) (by decide +kernel) rfl rfl rfl (by decide +kernel)
set_option maxRecDepth 65536 in
theorem w_c2 : (Jvm.Cond.code ({ cls := "java/lang/Object", name := "<init>", desc := "()V" } : Jvm.MethodName) object_method_1_code (1 : Nat) (Option.none : Option Jvm.ClassFile.FieldType)).before args0 about1 = true := code_word (m := ⟨0, 0⟩) (meth := k0m0) (c := k0c0) (by decide +kernel) rfl rfl rfl (by decide +kernel)
set_option maxRecDepth 65536 in
theorem w_c3 : (Jvm.Cond.code ({ cls := "com/example/olm/olm/db/Parentheses", name := "isClosed", desc := "()Z" } : Jvm.MethodName) prog_28_method_3_code (1 : Nat) (Option.some Jvm.ClassFile.FieldType.boolean)).before args0 about1 = true := code_word (m := ⟨2, 2⟩) (meth := k2m2) (c := k2c2) (by decide +kernel) rfl rfl rfl (by decide +kernel)
set_option maxRecDepth 65536 in
theorem w_c4 : (Jvm.Cond.code ({ cls := "com/example/olm/olm/db/ParenthesesReadPinLaw", name := "delta", desc := "(I)I" } : Jvm.MethodName) method_3_code (2 : Nat) (Option.some Jvm.ClassFile.FieldType.int)).before args0 about1 = true := code_word (m := ⟨1, 2⟩) (meth := k1m2) (c := k1c2) (by decide +kernel) rfl rfl rfl (by decide +kernel)
set_option maxRecDepth 65536 in
theorem w_c5 : (Jvm.Cond.code ({ cls := "com/example/olm/olm/db/ParenthesesReadPinLaw", name := "draw", desc := "(I)C" } : Jvm.MethodName) method_2_code (3 : Nat) (Option.some Jvm.ClassFile.FieldType.char)).before args0 about1 = true := code_word (m := ⟨1, 1⟩) (meth := k1m1) (c := k1c1) (by decide +kernel) rfl rfl rfl (by decide +kernel)
set_option maxRecDepth 65536 in
theorem w_c6 : (Jvm.Cond.code ({ cls := "com/example/olm/olm/db/Parentheses", name := "read", desc := "(C)Z" } : Jvm.MethodName) prog_28_method_2_code (2 : Nat) (Option.some Jvm.ClassFile.FieldType.boolean)).before args0 about1 = true := code_word (m := ⟨2, 1⟩) (meth := k2m1) (c := k2c1) (by decide +kernel) rfl rfl rfl (by decide +kernel)
def codes1 : List Jvm.Cond := [Jvm.Cond.code x code maxLocals ret, Jvm.Cond.code ({ cls := "com/example/olm/olm/db/Parentheses", name := "<init>", desc := "()V" } : Jvm.MethodName) prog_28_method_1_code (1 : Nat) (Option.none : Option Jvm.ClassFile.FieldType), Jvm.Cond.code ({ cls := "java/lang/Object", name := "<init>", desc := "()V" } : Jvm.MethodName) object_method_1_code (1 : Nat) (Option.none : Option Jvm.ClassFile.FieldType), Jvm.Cond.code ({ cls := "com/example/olm/olm/db/Parentheses", name := "isClosed", desc := "()Z" } : Jvm.MethodName) prog_28_method_3_code (1 : Nat) (Option.some Jvm.ClassFile.FieldType.boolean), Jvm.Cond.code ({ cls := "com/example/olm/olm/db/ParenthesesReadPinLaw", name := "delta", desc := "(I)I" } : Jvm.MethodName) method_3_code (2 : Nat) (Option.some Jvm.ClassFile.FieldType.int), Jvm.Cond.code ({ cls := "com/example/olm/olm/db/ParenthesesReadPinLaw", name := "draw", desc := "(I)C" } : Jvm.MethodName) method_2_code (3 : Nat) (Option.some Jvm.ClassFile.FieldType.char), Jvm.Cond.code ({ cls := "com/example/olm/olm/db/Parentheses", name := "read", desc := "(C)Z" } : Jvm.MethodName) prog_28_method_2_code (2 : Nat) (Option.some Jvm.ClassFile.FieldType.boolean)]
set_option maxRecDepth 65536 in
theorem codes_eq : words1.filter isCode = codes1 := rfl
theorem w_codes : ∀ c ∈ words1.filter isCode, c.before args0 about1 = true := by
  rw [codes_eq]
  intro c hc
  simp only [codes1, List.mem_cons, List.not_mem_nil, or_false] at hc
  rcases hc with rfl | rfl | rfl | rfl | rfl | rfl | rfl
  · exact w_c0
  · exact w_c1
  · exact w_c2
  · exact w_c3
  · exact w_c4
  · exact w_c5
  · exact w_c6
set_option maxRecDepth 65536 in
theorem w_t1 : (words1.take 24).all (fun c => isCode c || c.before args0 about1) = true := by decide +kernel
set_option maxRecDepth 65536 in
theorem w_t2 : (words1.drop 24).all (fun c => isCode c || c.before args0 about1) = true := by decide +kernel
theorem w_tables : (allAtoms (Jvm.Cond.code x code maxLocals ret :: tables_1)).before args0 about1 = true := by
  rw [allAtoms_all]
  show words1.all (fun c => c.before args0 about1) = true
  refine all_split ?_ w_codes
  rw [← List.take_append_drop 24 words1, List.all_append, w_t1, w_t2]
  rfl
set_option maxRecDepth 65536 in
theorem w_case : (Jvm.Cond.and given_1 narrow_1).before args0 about1 = true := by decide +kernel
theorem w_applies : (headSpec (Jvm.Cond.code x code maxLocals ret :: tables_1) room_1).applies x e0.platform about1 = true :=
  (Spec.applies_iff w_frames).mpr ⟨w_running, w_runnable, w_alone, w_named, w_hears, w_ripe, w_room, w_tables⟩
theorem atStart : AtStart classFile x code maxLocals ret World_1 tables_1 room_1 Calls_1 rest_1 Pre_1 launch0 p0 e0 about1 theMethod args0 below0 :=
  ⟨lists_1, trivial, launch0.admits_env _ _ _, launch0.least_env, fairChoices_fair.cas, fairChoices_fair.clock, w_frames, w_args, w_heap, w_applies, trivial, trivial, w_case⟩
end start1
theorem witness_1 : WitnessClaimed_1 := ⟨start1.p0, start1.e0, start1.about1, start1.theMethod, start1.args0, start1.below0, start1.atStart⟩
end Jvm.Pilot.@@N@@
