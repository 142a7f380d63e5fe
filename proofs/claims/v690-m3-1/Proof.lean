import JvmDerived
import JvmDerived.Pilot.@@N@@Statement
import JvmDerived.Pilot.@@N@@Code
set_option linter.unusedVariables false
set_option linter.unusedSimpArgs false
namespace Jvm.RoadKit
open Sem ClassFile Op Lib Jvm.Stand Jvm.Free Jvm.LawKit
section New
variable {p : Program} {l : Launch} {e : Env} {R : Room} {s : State} {m : MethodId} {args : Array Value} {below : List Frame} {meth : Method} {c : Code} {T : State} {locs : List Loc} {cells slots : Nat}
theorem retI (X : Stand p l e R s m args below meth c T locs cells slots) (hx : p.tables.exec = Jvm.exec) {pc : Nat} {Ls : Array Slot} {z : Int32} {rest : List Value} (hret : meth.sig.returnType = some .int) (hd : decode c.code pc = .ok (.ireturn, 1)) {fs : List Frame}
    (hl : ∀ (f : JFrame) (acts : List Action), f.method = m → f.locked = none → f.entered = [] → (doReturn e (T.setTop f) acts (some (.int z))).1 = T.setFrames fs) : Steps p.tables e below (T.setTop (mkF m pc Ls (.int z :: rest))) (T.setFrames fs) := by
  have hm' : T.vm.method? m = some meth := X.method'
  have hn : narrow .int (.int z) = .int z := rfl
  show Steps p.tables e below (T.setTop { method := m, pc := pc, locals := Ls, stack := _ :: rest, locked := none }) _
  jvm_step X.here [X.here.top, hx, hd, hm', hret, hn]
  first | (intro acts; rw [hl _ acts rfl rfl rfl]) | rw [hl _ _ rfl rfl rfl]
  exact Steps.refl _
end New
end Jvm.RoadKit
namespace Jvm.Pilot.@@N@@
open Jvm Jvm.ClassFile Sem Op Lib Jvm.Free Jvm.Stand Jvm.LawKit Jvm.RoadKit Bundle Jvm.Pilot.@@N@@.Jvm.D
def own_sel (c : Bool) (t f : Int32) : Int32 := bif c then t else f
theorem own_bif {tb : Tables} [Ours tb] {e : Env} {below : List Frame} {T target : State} {m : MethodId} {c : Code} {g : JFrame} (h : At T m c below) (hx : tb.exec = Jvm.exec) (hg : g.method = m) {cd : ClassFile.Cond} {x : Int32} {rest : List Value} {v1 v0 : Int} {pc0 : Nat} (hpc : g.pc = pc0) (hd : decode c.code pc0 = .ok (.ifCond cd 7, 3)) (hd1 : decode c.code (pc0 + 3) = .ok (.iconst v1, 1)) (hd2 : decode c.code (pc0 + 4) = .ok (.goto 4, 3)) (hd3 : decode c.code (pc0 + 7) = .ok (.iconst v0, 1)) (hs : g.stack = .int x :: rest)
    (hr : Steps tb e below (T.setTop { g with pc := pc0 + 8, stack := .int (own_sel (if_icmp.holds cd x 0) (Int32.ofInt v0) (Int32.ofInt v1)) :: rest }) target) : Steps tb e below (T.setTop g) target := by
  subst hpc
  cases hh : if_icmp.holds cd x 0 with
  | true =>
    refine XS.ifYes h hx hg (pc0 := g.pc) (pc' := g.pc + 7) rfl hd hs ((if0 _ _).trans hh) (by omega) (by omega) ?_
    refine XS.iconst h hx hg hd3 ?_
    rw [hh] at hr
    exact hr
  | false =>
    refine XS.ifNo h hx hg hd hs ((if0 _ _).trans hh) ?_
    refine XS.iconst h hx hg hd1 ?_
    refine XS.goto h hx hg (pc0 := g.pc + 4) (pc' := g.pc + 8) rfl hd2 (by omega) (by omega) ?_
    rw [hh] at hr
    exact hr
theorem own_bicmp {tb : Tables} [Ours tb] {e : Env} {below : List Frame} {T target : State} {m : MethodId} {c : Code} {g : JFrame} (h : At T m c below) (hx : tb.exec = Jvm.exec) (hg : g.method = m) {cd : ClassFile.Cond} {x y : Int32} {rest : List Value} {v1 v0 : Int} {pc0 : Nat} (hpc : g.pc = pc0) (hd : decode c.code pc0 = .ok (.if_icmp cd 7, 3)) (hd1 : decode c.code (pc0 + 3) = .ok (.iconst v1, 1)) (hd2 : decode c.code (pc0 + 4) = .ok (.goto 4, 3)) (hd3 : decode c.code (pc0 + 7) = .ok (.iconst v0, 1)) (hs : g.stack = .int y :: .int x :: rest)
    (hr : Steps tb e below (T.setTop { g with pc := pc0 + 8, stack := .int (own_sel (if_icmp.holds cd x y) (Int32.ofInt v0) (Int32.ofInt v1)) :: rest }) target) : Steps tb e below (T.setTop g) target := by
  subst hpc
  cases hh : if_icmp.holds cd x y with
  | true =>
    refine XS.icmpYes h hx hg (pc0 := g.pc) (pc' := g.pc + 7) rfl hd hs hh (by omega) (by omega) ?_
    refine XS.iconst h hx hg hd3 ?_
    rw [hh] at hr
    exact hr
  | false =>
    refine XS.icmpNo h hx hg hd hs hh ?_
    refine XS.iconst h hx hg hd1 ?_
    refine XS.goto h hx hg (pc0 := g.pc + 4) (pc' := g.pc + 8) rfl hd2 (by omega) (by omega) ?_
    rw [hh] at hr
    exact hr
theorem own_nar_sel (b : Bool) : nar .boolean (own_sel b (0 : Int32) (1 : Int32)) = own_sel b (0 : Int32) (1 : Int32) := by cases b <;> decide
section OwnRet
variable {p : Program} {l : Launch} {e : Env} {R : Room} {s : State} {m : MethodId} {args : Array Value} {below : List Frame} {meth : Method} {c : Code} {T : State} {locs : List Loc} {cells slots : Nat}
theorem own_retN (X : Stand p l e R s m args below meth c T locs cells slots) (hx : p.tables.exec = Jvm.exec) {pc : Nat} {Ls : Array Slot} {z : Int32} {t : FieldType} {rest : List Value} (hret : meth.sig.returnType = some t) (ht : t = .boolean ∨ t = .byte ∨ t = .char ∨ t = .short)
    (hd : decode c.code pc = .ok (.ireturn, 1)) (hz : nar t z = z) {fs : List Frame} (hl : ∀ (f : JFrame) (acts : List Action), f.method = m → f.locked = none → f.entered = [] → (doReturn e (T.setTop f) acts (some (.int z))).1 = T.setFrames fs) :
    Steps p.tables e below (T.setTop (mkF m pc Ls (.int z :: rest))) (T.setFrames fs) :=
  retN X hx hret ht hd (by rw [hz]; exact hl)
end OwnRet
theorem own_keep_eq {h h' : Heap} {ws : List Addr} (e : h' = h) : Keep h h' ws := by subst e; exact Keep.refl _ _
abbrev own_rem (x y : Int32) : Int32 := x % y
theorem own_irem {tb : Tables} [Ours tb] {e : Env} {below : List Frame} {T target : State} {m : MethodId} {c : Code} {g : JFrame} (h : At T m c below) (hx : tb.exec = Jvm.exec) (hg : g.method = m) {x y : Int32} {rest : List Value} (hd : decode c.code g.pc = .ok (.irem, 1)) (hs : g.stack = .int y :: .int x :: rest) (hy : y ≠ 0)
    (hr : Steps tb e below (T.setTop { g with pc := g.pc + 1, stack := .int (own_rem x y) :: rest }) target) : Steps tb e below (T.setTop g) target :=
  XS.irem h hx hg hd hs hy (by rw [Jvm.irem_eq_mod]; exact hr)
theorem own_stand_le {p : Program} {l : Launch} {e : Env} {R : Room} {s : State} {m : MethodId} {args : Array Value} {below : List Frame} {meth : Method} {c : Code} {T : State} {locs : List Loc} {cells slots cells' slots' : Nat} (X : Stand p l e R s m args below meth c T locs cells slots) (h1 : cells ≤ cells') (h2 : slots ≤ slots') : Stand p l e R s m args below meth c T locs cells' slots' :=
  { X with same := X.same.mono h1 h2 }
theorem own_sta_keep {Z : State} {h h' : Heap} {C n d : String} {v : Value} (S : Sta Z h C n d v) (K : Keep h h' []) : Sta Z h' C n d v := by
  obtain ⟨cf, i, k, f, st, cell, h1, h2, h3, h4, h5, h6, h7⟩ := S
  exact ⟨cf, i, k, f, st, cell, h1, h2, h3, h4, K.2.1 _ _ h5 List.not_mem_nil, h6, h7⟩
theorem d1_0 : decode prog_33_method_1_code 0 = .ok (.aload_n 0, 1) := by decide +kernel
theorem d1_1 : decode prog_33_method_1_code 1 = .ok (.invokespecial 1, 3) := by decide +kernel
theorem d1_4 : decode prog_33_method_1_code 4 = .ok (.aload_n 0, 1) := by decide +kernel
theorem d1_5 : decode prog_33_method_1_code 5 = .ok (.lload_n 1, 1) := by decide +kernel
theorem d1_6 : decode prog_33_method_1_code 6 = .ok (.putfield 7, 3) := by decide +kernel
theorem d1_9 : decode prog_33_method_1_code 9 = .ok (.return_, 1) := by decide +kernel
theorem pn_1 : plainName "com/example/stagewise/stagewise/EarlyGroup" = true := by first | (simp [plainName, overriddenIn]; done) | decide +kernel
theorem ef_1 (m : MethodId) (x0 : Addr) (x1 : Int64) : entryFrame m #[(.ref x0), (.long x1)] 3 = mkF m 0 #[.val (.ref x0), .val (.long x1), .second] [] := by first | (simp [entryFrame, mkF, argsToLocals, Value.category]; done) | rfl
theorem d3_0 : decode prog_33_method_2_code 0 = .ok (.aload_n 0, 1) := by decide +kernel
theorem d3_1 : decode prog_33_method_2_code 1 = .ok (.getfield 13, 3) := by decide +kernel
theorem d3_4 : decode prog_33_method_2_code 4 = .ok (.aload_n 0, 1) := by decide +kernel
theorem d3_5 : decode prog_33_method_2_code 5 = .ok (.getfield 7, 3) := by decide +kernel
theorem d3_8 : decode prog_33_method_2_code 8 = .ok (.lcmp, 1) := by decide +kernel
theorem d3_9 : decode prog_33_method_2_code 9 = .ok (.ifCond .lt 7, 3) := by decide +kernel
theorem d3_12 : decode prog_33_method_2_code 12 = .ok (.iconst 1, 1) := by decide +kernel
theorem d3_13 : decode prog_33_method_2_code 13 = .ok (.goto 4, 3) := by decide +kernel
theorem d3_16 : decode prog_33_method_2_code 16 = .ok (.iconst 0, 1) := by decide +kernel
theorem d3_17 : decode prog_33_method_2_code 17 = .ok (.ireturn, 1) := by decide +kernel
theorem pn_3 : plainName "com/example/stagewise/stagewise/EarlyGroup" = true := by first | (simp [plainName, overriddenIn]; done) | decide +kernel
theorem ef_3 (m : MethodId) (x0 : Addr) : entryFrame m #[(.ref x0)] 1 = mkF m 0 #[.val (.ref x0)] [] := by first | (simp [entryFrame, mkF, argsToLocals, Value.category]; done) | rfl
theorem d4_0 : decode prog_33_method_3_code 0 = .ok (.aload_n 0, 1) := by decide +kernel
theorem d4_1 : decode prog_33_method_3_code 1 = .ok (.dup, 1) := by decide +kernel
theorem d4_2 : decode prog_33_method_3_code 2 = .ok (.getfield 13, 3) := by decide +kernel
theorem d4_5 : decode prog_33_method_3_code 5 = .ok (.iload_n 1, 1) := by decide +kernel
theorem d4_6 : decode prog_33_method_3_code 6 = .ok (.i2l, 1) := by decide +kernel
theorem d4_7 : decode prog_33_method_3_code 7 = .ok (.ladd, 1) := by decide +kernel
theorem d4_8 : decode prog_33_method_3_code 8 = .ok (.putfield 13, 3) := by decide +kernel
theorem d4_11 : decode prog_33_method_3_code 11 = .ok (.return_, 1) := by decide +kernel
theorem pn_4 : plainName "com/example/stagewise/stagewise/EarlyGroup" = true := by first | (simp [plainName, overriddenIn]; done) | decide +kernel
theorem ef_4 (m : MethodId) (x0 : Addr) (x1 : Int32) : entryFrame m #[(.ref x0), (.int x1)] 2 = mkF m 0 #[.val (.ref x0), .val (.int x1)] [] := by first | (simp [entryFrame, mkF, argsToLocals, Value.category]; done) | rfl
theorem pn_0 : plainName "com/example/stagewise/stagewise/EarlyGroupIsFullPinLaw" = true := by first | (simp [plainName, overriddenIn]; done) | decide +kernel
theorem pd_0_0 : parseMethodDescriptor "(J)V" = some ⟨[.long], none⟩ := by decide +kernel
theorem pd_0_2 : parseMethodDescriptor "()Z" = some ⟨[], some .boolean⟩ := by decide +kernel
theorem pd_0_3 : parseMethodDescriptor "(I)V" = some ⟨[.int], none⟩ := by decide +kernel
theorem ef_0 (m : MethodId) (x0 : Int64) (x1 : Int32) (x2 : Int32) : entryFrame m #[(.long x0), (.int x1), (.int x2)] maxLocals = mkF m 0 #[.val (.long x0), .second, .val (.int x1), .val (.int x2), .unset, .unset, .unset, .unset, .unset, .unset, .unset, .unset, .unset, .unset, .unset] [] := by first | (simp [entryFrame, mkF, argsToLocals, Value.category, maxLocals]; done) | rfl
def Q1 (Z : State) (a1 : Addr) (q2 : Int64) (u_m_nLimit_a1 : Value) (w : Int64) (h0 : Heap) (n0 : Nat) (v : Option Value) (h : Heap) (L : List Loc) : Prop := v = none ∧ Fr n0 L ∧ Keep h0 h [a1] ∧ Exa Z h a1 "com/example/stagewise/stagewise/EarlyGroup" ∧ Fld Z h a1 "com/example/stagewise/stagewise/EarlyGroup" "m_nLimit" "J" (.long q2) ∧ Fld Z h a1 "com/example/stagewise/stagewise/EarlyGroup" "m_nHeld" "J" (.long w)
set_option maxRecDepth 65536 in
set_option maxHeartbeats 40000000 in
theorem rm1 (l : Launch) (Z : State) (a0 : Array Value) (hw : ∀ d ∈ tables_1, d.before a0 Z = true) (ws : List Jvm.Cond) (a1 : Addr) (q2 : Int64) (u_m_nLimit_a1 : Value) (w : Int64) (h0 : Heap) (n0 : Nat) (Z0 : n0 ≤ h0.size) (E_a1 : Exa Z h0 a1 "com/example/stagewise/stagewise/EarlyGroup") (F_m_nLimit_a1 : Fld Z h0 a1 "com/example/stagewise/stagewise/EarlyGroup" "m_nLimit" "J" u_m_nLimit_a1) (g_a1 : n0 ≤ a1) (F_held : Fld Z h0 a1 "com/example/stagewise/stagewise/EarlyGroup" "m_nHeld" "J" (.long w)) :
    MetFree l (⟨"com/example/stagewise/stagewise/EarlyGroup", "<init>", "(J)V"⟩ : MethodName) (head1 (Jvm.Cond.code (⟨"com/example/stagewise/stagewise/EarlyGroup", "<init>", "(J)V"⟩ : MethodName) prog_33_method_1_code 3 none :: ws) ({ frames := 1, cells := 0, slots := 0, locals := 12 } : Room)) (fun a U => a = #[(.ref a1), (.long q2)] ∧ Z.Warmed39 U.vm ∧ U.heap = h0) (fun _ _ _ _ _ => True) (fun _ U o U' => ∃ v L, o = .returned v ∧ Q1 Z a1 q2 u_m_nLimit_a1 w h0 n0 v U'.heap L ∧ FrameEnd U o U' L ({ frames := 1, cells := 0, slots := 0, locals := 12 } : Room).cells ({ frames := 1, cells := 0, slots := 0, locals := 12 } : Room).slots) := by
  refine MetFree.of_bodySF (plainFor_of_name pn_1) hisR ?_
  intro p e s m args below meth c s₁ Bd hml0 hP hK
  obtain ⟨rfl, hZ, hh⟩ := hP
  have hx := Bd.exec
  have hby := Bd.bytes
  have hml : c.maxLocals = 3 := hml0
  have hown : s.vm.findClass "com/example/stagewise/stagewise/EarlyGroup" = some m.cls := findClass_of_methodNamed Bd.named
  have hnm := (name_of_methodNamed Bd.named Bd.method).1
  have X0 : Stand p l e ({ frames := 1, cells := 0, slots := 0, locals := 12 } : Room) s m #[(.ref a1), (.long q2)] below meth c s₁ [] 0 0 := Stand.of_body Bd
  have e0 : s₁.heap = h0 := by rw [← hh, Bd.state]; rfl
  have N0 := Fr.nil n0
  have pre0 : ∀ t, Steps p.tables e below (s₁.setTop (mkF m 0 #[.val (.ref a1), .val (.long q2), .second] [])) t → Steps p.tables e below (s₁.setTop (entryFrame m #[(.ref a1), (.long q2)] 3)) t := fun t k => castTop (ef_1 m a1 q2) k
  obtain ⟨T3, X3, e3, st3⟩ := initO X0 hx hZ hown (hw _ (List.mem_of_getElem? (i := 6) rfl)) (hw _ (List.mem_of_getElem? (i := 7) rfl)) (hw _ (List.mem_of_getElem? (i := 8) rfl)) e0 (g := (mkF m 1 #[.val (.ref a1), .val (.long q2), .second] [(.ref a1)])) rfl (by rw [hml]; rfl) rfl (hb hby d1_1) (by decide) (W := 0) (by show 2 * 0 + _ ≤ _; exact Nat.le_of_eq rfl) (by decide)
  obtain ⟨T4, h4, X4, e4, W4, st4⟩ := putF X3 hx hZ hown (host := "") (Or.inl (hw _ (List.mem_of_getElem? (i := 9) rfl))) Via.refl e3 F_m_nLimit_a1 E_a1 (Or.inr ⟨(hw _ (List.mem_of_getElem? (i := 10) rfl)), rfl, hnm⟩) (hw _ (List.mem_of_getElem? (i := 1) rfl)) (ty := .long) (by decide) rfl rfl (g := (mkF m 6 #[.val (.ref a1), .val (.long q2), .second] [(.long q2), (.ref a1)])) rfl rfl (hb hby d1_6)
  have Fw4 := F_m_nLimit_a1.same W4      -- the field now holds (.long q2)
  have K4 : Keep h0 h4 [a1] := (Keep.refl h0 [a1]).wr W4 (Or.inl (List.mem_of_getElem? (i := 0) rfl))
  have N4 := Fr.snoc X4 N0 g_a1
  obtain ⟨fs, hr, hrun, hended, hW, hsame⟩ := X4.leave (v := none) (fun _ => rfl)
  refine ⟨_, _, pre0 _ ?_, hrun, hended, _, _, rfl, ?_, ⟨_, rfl⟩, hW, hsame.mono (by decide) (by decide)⟩
  · show Steps p.tables e below (s₁.setTop (mkF m 0 #[.val (.ref a1), .val (.long q2), .second] [])) _
    refine XS.aloadN X0.here hx rfl (hb hby d1_0) rfl rfl ?_
    show Steps p.tables e below (s₁.setTop (mkF m 1 #[.val (.ref a1), .val (.long q2), .second] [(.ref a1)])) _
    refine st3 _ ?_
    show Steps p.tables e below (T3.setTop (mkF m 4 #[.val (.ref a1), .val (.long q2), .second] [])) _
    refine XS.aloadN X3.here hx rfl (hb hby d1_4) rfl rfl ?_
    show Steps p.tables e below (T3.setTop (mkF m 5 #[.val (.ref a1), .val (.long q2), .second] [(.ref a1)])) _
    refine XS.lloadN X3.here hx rfl (hb hby d1_5) rfl ?_
    show Steps p.tables e below (T3.setTop (mkF m 6 #[.val (.ref a1), .val (.long q2), .second] [(.long q2), (.ref a1)])) _
    refine st4 _ ?_
    show Steps p.tables e below (T4.setTop (mkF m 9 #[.val (.ref a1), .val (.long q2), .second] [])) _
    exact X4.returnOut hx Bd.returns (hb hby d1_9) hr
  · show Q1 Z a1 q2 u_m_nLimit_a1 w h0 n0 _ T4.heap _
    rw [e4]
    exact ⟨rfl, N4, K4, (E_a1.wr W4), Fw4, F_held.other W4 (Or.inr (slot_ne (Or.inl (hw _ (List.mem_of_getElem? (i := 17) rfl))) (Or.inr (hw _ (List.mem_of_getElem? (i := 10) rfl))) (by decide) (t := .long) (t' := .long) (by decide) (by decide)))⟩

def Q3 (Z : State) (a1 : Addr) (w2 : Int64) (w4 : Int64) (h0 : Heap) (n0 : Nat) (v : Option Value) (h : Heap) (L : List Loc) : Prop := v = some (.int (own_sel (if_icmp.holds .lt (lcmpW w2 w4) (0 : Int32)) (0 : Int32) (1 : Int32))) ∧ Fr n0 L ∧ h = h0
set_option maxRecDepth 65536 in
set_option maxHeartbeats 40000000 in
theorem rm3 (l : Launch) (Z : State) (a0 : Array Value) (hw : ∀ d ∈ tables_1, d.before a0 Z = true) (ws : List Jvm.Cond) (a1 : Addr) (w2 : Int64) (w4 : Int64) (h0 : Heap) (n0 : Nat) (Z0 : n0 ≤ h0.size) (F_m_nHeld_a1 : Fld Z h0 a1 "com/example/stagewise/stagewise/EarlyGroup" "m_nHeld" "J" (.long w2)) (F_m_nLimit_a1 : Fld Z h0 a1 "com/example/stagewise/stagewise/EarlyGroup" "m_nLimit" "J" (.long w4)) :
    MetFree l (⟨"com/example/stagewise/stagewise/EarlyGroup", "isFull", "()Z"⟩ : MethodName) (head1 (Jvm.Cond.code (⟨"com/example/stagewise/stagewise/EarlyGroup", "isFull", "()Z"⟩ : MethodName) prog_33_method_2_code 1 (some .boolean) :: ws) ({ frames := 0, cells := 0, slots := 0, locals := 0 } : Room)) (fun a U => a = #[(.ref a1)] ∧ Z.Warmed39 U.vm ∧ U.heap = h0) (fun _ _ _ _ _ => True) (fun _ U o U' => ∃ v L, o = .returned v ∧ Q3 Z a1 w2 w4 h0 n0 v U'.heap L ∧ FrameEnd U o U' L ({ frames := 0, cells := 0, slots := 0, locals := 0 } : Room).cells ({ frames := 0, cells := 0, slots := 0, locals := 0 } : Room).slots) := by
  refine MetFree.of_bodySF (plainFor_of_name pn_3) hisR ?_
  intro p e s m args below meth c s₁ Bd hml0 hP hK
  obtain ⟨rfl, hZ, hh⟩ := hP
  have hx := Bd.exec
  have hby := Bd.bytes
  have hml : c.maxLocals = 1 := hml0
  have hown : s.vm.findClass "com/example/stagewise/stagewise/EarlyGroup" = some m.cls := findClass_of_methodNamed Bd.named
  have hnm := (name_of_methodNamed Bd.named Bd.method).1
  have X0 : Stand p l e ({ frames := 0, cells := 0, slots := 0, locals := 0 } : Room) s m #[(.ref a1)] below meth c s₁ [] 0 0 := Stand.of_body Bd
  have e0 : s₁.heap = h0 := by rw [← hh, Bd.state]; rfl
  have N0 := Fr.nil n0
  have pre0 : ∀ t, Steps p.tables e below (s₁.setTop (mkF m 0 #[.val (.ref a1)] [])) t → Steps p.tables e below (s₁.setTop (entryFrame m #[(.ref a1)] 1)) t := fun t k => castTop (ef_3 m a1) k
  obtain ⟨T3, X3, e3, st3⟩ := getF X0 hx hZ hown (host := "") (Or.inl (hw _ (List.mem_of_getElem? (i := 16) rfl))) Via.refl e0 F_m_nHeld_a1 (g := (mkF m 1 #[.val (.ref a1)] [(.ref a1)])) rfl rfl (hb hby d3_1)
  obtain ⟨T5, X5, e5, st5⟩ := getF X3 hx hZ hown (host := "") (Or.inl (hw _ (List.mem_of_getElem? (i := 9) rfl))) Via.refl e3 F_m_nLimit_a1 (g := (mkF m 5 #[.val (.ref a1)] [(.ref a1), (.long w2)])) rfl rfl (hb hby d3_5)
  obtain ⟨fs, hr, hrun, hended, hW, hsame⟩ := X5.leave (v := some (.int (own_sel (if_icmp.holds .lt (lcmpW w2 w4) (0 : Int32)) (0 : Int32) (1 : Int32)))) (fun h => by rw [Bd.returns] at h; cases h)
  refine ⟨_, _, pre0 _ ?_, hrun, hended, _, _, rfl, ?_, ⟨_, rfl⟩, hW, hsame.mono (by decide) (by decide)⟩
  · show Steps p.tables e below (s₁.setTop (mkF m 0 #[.val (.ref a1)] [])) _
    refine XS.aloadN X0.here hx rfl (hb hby d3_0) rfl rfl ?_
    show Steps p.tables e below (s₁.setTop (mkF m 1 #[.val (.ref a1)] [(.ref a1)])) _
    refine st3 _ ?_
    show Steps p.tables e below (T3.setTop (mkF m 4 #[.val (.ref a1)] [(.long w2)])) _
    refine XS.aloadN X3.here hx rfl (hb hby d3_4) rfl rfl ?_
    show Steps p.tables e below (T3.setTop (mkF m 5 #[.val (.ref a1)] [(.ref a1), (.long w2)])) _
    refine st5 _ ?_
    show Steps p.tables e below (T5.setTop (mkF m 8 #[.val (.ref a1)] [(.long w4), (.long w2)])) _
    refine XS.lcmp X5.here hx rfl (hb hby d3_8) rfl ?_
    show Steps p.tables e below (T5.setTop (mkF m 9 #[.val (.ref a1)] [(.int (lcmpW w2 w4))])) _
    refine own_bif X5.here hx rfl (pc0 := 9) rfl (hb hby d3_9) (hb hby d3_12) (hb hby d3_13) (hb hby d3_16) rfl ?_
    show Steps p.tables e below (T5.setTop (mkF m 17 #[.val (.ref a1)] [(.int (own_sel (if_icmp.holds .lt (lcmpW w2 w4) (0 : Int32)) (0 : Int32) (1 : Int32)))])) _
    exact own_retN X5 hx (t := .boolean) Bd.returns (by simp) (hb hby d3_17) (own_nar_sel _) hr
  · show Q3 Z a1 w2 w4 h0 n0 _ T5.heap _
    rw [e5]
    exact ⟨rfl, N0, rfl⟩

def Q4 (Z : State) (a1 : Addr) (p2 : Int32) (w3 : Int64) (w : Int64) (h0 : Heap) (n0 : Nat) (v : Option Value) (h : Heap) (L : List Loc) : Prop := v = none ∧ Fr n0 L ∧ Keep h0 h [a1] ∧ Exa Z h a1 "com/example/stagewise/stagewise/EarlyGroup" ∧ Fld Z h a1 "com/example/stagewise/stagewise/EarlyGroup" "m_nHeld" "J" (.long (w3 + (p2.toInt64))) ∧ Fld Z h a1 "com/example/stagewise/stagewise/EarlyGroup" "m_nLimit" "J" (.long w)
set_option maxRecDepth 65536 in
set_option maxHeartbeats 40000000 in
theorem rm4 (l : Launch) (Z : State) (a0 : Array Value) (hw : ∀ d ∈ tables_1, d.before a0 Z = true) (ws : List Jvm.Cond) (a1 : Addr) (p2 : Int32) (w3 : Int64) (w : Int64) (h0 : Heap) (n0 : Nat) (Z0 : n0 ≤ h0.size) (F_m_nHeld_a1 : Fld Z h0 a1 "com/example/stagewise/stagewise/EarlyGroup" "m_nHeld" "J" (.long w3)) (E_a1 : Exa Z h0 a1 "com/example/stagewise/stagewise/EarlyGroup") (g_a1 : n0 ≤ a1) (F_lim : Fld Z h0 a1 "com/example/stagewise/stagewise/EarlyGroup" "m_nLimit" "J" (.long w)) :
    MetFree l (⟨"com/example/stagewise/stagewise/EarlyGroup", "count", "(I)V"⟩ : MethodName) (head1 (Jvm.Cond.code (⟨"com/example/stagewise/stagewise/EarlyGroup", "count", "(I)V"⟩ : MethodName) prog_33_method_3_code 2 none :: ws) ({ frames := 0, cells := 0, slots := 0, locals := 0 } : Room)) (fun a U => a = #[(.ref a1), (.int p2)] ∧ Z.Warmed39 U.vm ∧ U.heap = h0) (fun _ _ _ _ _ => True) (fun _ U o U' => ∃ v L, o = .returned v ∧ Q4 Z a1 p2 w3 w h0 n0 v U'.heap L ∧ FrameEnd U o U' L ({ frames := 0, cells := 0, slots := 0, locals := 0 } : Room).cells ({ frames := 0, cells := 0, slots := 0, locals := 0 } : Room).slots) := by
  refine MetFree.of_bodySF (plainFor_of_name pn_4) hisR ?_
  intro p e s m args below meth c s₁ Bd hml0 hP hK
  obtain ⟨rfl, hZ, hh⟩ := hP
  have hx := Bd.exec
  have hby := Bd.bytes
  have hml : c.maxLocals = 2 := hml0
  have hown : s.vm.findClass "com/example/stagewise/stagewise/EarlyGroup" = some m.cls := findClass_of_methodNamed Bd.named
  have hnm := (name_of_methodNamed Bd.named Bd.method).1
  have X0 : Stand p l e ({ frames := 0, cells := 0, slots := 0, locals := 0 } : Room) s m #[(.ref a1), (.int p2)] below meth c s₁ [] 0 0 := Stand.of_body Bd
  have e0 : s₁.heap = h0 := by rw [← hh, Bd.state]; rfl
  have N0 := Fr.nil n0
  have pre0 : ∀ t, Steps p.tables e below (s₁.setTop (mkF m 0 #[.val (.ref a1), .val (.int p2)] [])) t → Steps p.tables e below (s₁.setTop (entryFrame m #[(.ref a1), (.int p2)] 2)) t := fun t k => castTop (ef_4 m a1 p2) k
  obtain ⟨T4, X4, e4, st4⟩ := getF X0 hx hZ hown (host := "") (Or.inl (hw _ (List.mem_of_getElem? (i := 16) rfl))) Via.refl e0 F_m_nHeld_a1 (g := (mkF m 2 #[.val (.ref a1), .val (.int p2)] [(.ref a1), (.ref a1)])) rfl rfl (hb hby d4_2)
  obtain ⟨T5, h5, X5, e5, W5, st5⟩ := putF X4 hx hZ hown (host := "") (Or.inl (hw _ (List.mem_of_getElem? (i := 16) rfl))) Via.refl e4 F_m_nHeld_a1 E_a1 (Or.inl (hw _ (List.mem_of_getElem? (i := 17) rfl))) (hw _ (List.mem_of_getElem? (i := 1) rfl)) (ty := .long) (by decide) rfl rfl (g := (mkF m 8 #[.val (.ref a1), .val (.int p2)] [(.long (w3 + (p2.toInt64))), (.ref a1)])) rfl rfl (hb hby d4_8)
  have Fw5 := F_m_nHeld_a1.same W5      -- the field now holds (.long (w3 + (p2.toInt64)))
  have K5 : Keep h0 h5 [a1] := (Keep.refl h0 [a1]).wr W5 (Or.inl (List.mem_of_getElem? (i := 0) rfl))
  have N5 := Fr.snoc X5 N0 g_a1
  obtain ⟨fs, hr, hrun, hended, hW, hsame⟩ := X5.leave (v := none) (fun _ => rfl)
  refine ⟨_, _, pre0 _ ?_, hrun, hended, _, _, rfl, ?_, ⟨_, rfl⟩, hW, hsame.mono (by decide) (by decide)⟩
  · show Steps p.tables e below (s₁.setTop (mkF m 0 #[.val (.ref a1), .val (.int p2)] [])) _
    refine XS.aloadN X0.here hx rfl (hb hby d4_0) rfl rfl ?_
    show Steps p.tables e below (s₁.setTop (mkF m 1 #[.val (.ref a1), .val (.int p2)] [(.ref a1)])) _
    refine XS.dup X0.here hx rfl (hb hby d4_1) rfl rfl ?_
    show Steps p.tables e below (s₁.setTop (mkF m 2 #[.val (.ref a1), .val (.int p2)] [(.ref a1), (.ref a1)])) _
    refine st4 _ ?_
    show Steps p.tables e below (T4.setTop (mkF m 5 #[.val (.ref a1), .val (.int p2)] [(.long w3), (.ref a1)])) _
    refine XS.iloadN X4.here hx rfl (hb hby d4_5) rfl ?_
    show Steps p.tables e below (T4.setTop (mkF m 6 #[.val (.ref a1), .val (.int p2)] [(.int p2), (.long w3), (.ref a1)])) _
    refine XS.i2l X4.here hx rfl (hb hby d4_6) rfl ?_
    show Steps p.tables e below (T4.setTop (mkF m 7 #[.val (.ref a1), .val (.int p2)] [(.long (p2.toInt64)), (.long w3), (.ref a1)])) _
    refine XS.ladd X4.here hx rfl (hb hby d4_7) rfl ?_
    show Steps p.tables e below (T4.setTop (mkF m 8 #[.val (.ref a1), .val (.int p2)] [(.long (w3 + (p2.toInt64))), (.ref a1)])) _
    refine st5 _ ?_
    show Steps p.tables e below (T5.setTop (mkF m 11 #[.val (.ref a1), .val (.int p2)] [])) _
    exact X5.returnOut hx Bd.returns (hb hby d4_11) hr
  · show Q4 Z a1 p2 w3 w h0 n0 _ T5.heap _
    rw [e5]
    exact ⟨rfl, N5, K5, (E_a1.wr W5), Fw5, F_lim.other W5 (Or.inr (slot_ne (Or.inr (hw _ (List.mem_of_getElem? (i := 10) rfl))) (Or.inl (hw _ (List.mem_of_getElem? (i := 17) rfl))) (by decide) (t := .long) (t' := .long) (by decide) (by decide)))⟩

def Q0 (Z : State) (q1 : Int64) (p2 : Int32) (p3 : Int32) (h0 : Heap) (n0 : Nat) (v : Option Value) (h : Heap) (L : List Loc) : Prop := v = some (.int (1 : Int32)) ∧ Fr n0 L
set_option maxRecDepth 65536 in
set_option maxHeartbeats 40000000 in
theorem rm0 (l : Launch) (Z : State) (a0 : Array Value) (hw : ∀ d ∈ tables_1, d.before a0 Z = true) (ws : List Jvm.Cond) (q1 : Int64) (p2 : Int32) (p3 : Int32) (h0 : Heap) (n0 : Nat) (Z0 : n0 ≤ h0.size) :
    MetFree l x (head1 (Jvm.Cond.code x code maxLocals ret :: ws) room_1) (fun a U => a = #[(.long q1), (.int p2), (.int p3)] ∧ Z.Warmed39 U.vm ∧ U.heap = h0) (fun _ _ _ _ _ => True) (fun _ U o U' => ∃ v L, o = .returned v ∧ Q0 Z q1 p2 p3 h0 n0 v U'.heap L ∧ FrameEnd U o U' L room_1.cells room_1.slots) := by
  refine MetFree.of_bodySF (plainFor_of_name pn_0) hisR ?_
  intro p e s m args below meth c s₁ Bd hml0 hP hK
  obtain ⟨rfl, hZ, hh⟩ := hP
  have hx := Bd.exec
  have hby := Bd.bytes
  have hml : c.maxLocals = 15 := hml0
  have hown : s.vm.findClass "com/example/stagewise/stagewise/EarlyGroupIsFullPinLaw" = some m.cls := findClass_of_methodNamed Bd.named
  have hnm := (name_of_methodNamed Bd.named Bd.method).1
  have X0 : Stand p l e room_1 s m #[(.long q1), (.int p2), (.int p3)] below meth c s₁ [] 0 0 := Stand.of_body Bd
  have e0 : s₁.heap = h0 := by rw [← hh, Bd.state]; rfl
  have N0 := Fr.nil n0
  have pre0 : ∀ t, Steps p.tables e below (s₁.setTop (mkF m 0 #[.val (.long q1), .second, .val (.int p2), .val (.int p3), .unset, .unset, .unset, .unset, .unset, .unset, .unset, .unset, .unset, .unset, .unset] [])) t → Steps p.tables e below (s₁.setTop (entryFrame m #[(.long q1), (.int p2), (.int p3)] maxLocals)) t := fun t k => castTop (ef_0 m q1 p2 p3) k
  obtain ⟨T4, h4, X4, e4, E4, A4, D4, -, st4⟩ := newO X0 hx hZ hown (hw _ (List.mem_of_getElem? (i := 0) rfl)) (hw _ (List.mem_of_getElem? (i := 1) rfl)) (hw _ (List.mem_of_getElem? (i := 2) rfl)) e0 (g := (mkF m 0 #[.val (.long q1), .second, .val (.int p2), .val (.int p3), .unset, .unset, .unset, .unset, .unset, .unset, .unset, .unset, .unset, .unset, .unset] [])) rfl (hb hby at_0) (by decide) (by decide)
  obtain ⟨b4, g4⟩ : ∃ z, z = h0.size := ⟨_, rfl⟩      -- the fresh object's address
  rw [← g4] at A4 D4 st4      -- A4 : Exa Z h4 b4 "com/example/stagewise/stagewise/EarlyGroup"; E4 : Ext h0 h4 (carries every older fact: .ext E4)
  have F_m_nLimit_b4 : Fld Z h4 b4 "com/example/stagewise/stagewise/EarlyGroup" "m_nLimit" "J" (.long (0 : Int64)) := D4 (Or.inr (hw _ (List.mem_of_getElem? (i := 10) rfl))) (ty := .long) (by decide)
  have F_m_nHeld_b4 : Fld Z h4 b4 "com/example/stagewise/stagewise/EarlyGroup" "m_nHeld" "J" (.long (0 : Int64)) := D4 (Or.inl (hw _ (List.mem_of_getElem? (i := 17) rfl))) (ty := .long) (by decide)
  have E_b4 := A4
  have g_b4 : n0 ≤ b4 := Nat.le_trans Z0 (Nat.le_of_eq g4.symm)
  have sz_b4 : h0.size ≤ b4 := (Nat.le_trans (Keep.refl h0 []).1 (Nat.le_of_eq g4.symm))
  have K4 : Keep h0 h4 [] := (Keep.refl h0 []).ext E4
  obtain ⟨_, _, ⟨T5, L5, k5, n5⟩, -, X5, ⟨Lc5, hQ5, l5, y5, z5⟩, st5⟩ := X4.specialBack hx (y := (⟨"com/example/stagewise/stagewise/EarlyGroup", "<init>", "(J)V"⟩ : MethodName)) rfl hown (mvT hZ (hw _ (List.mem_of_getElem? (i := 3) rfl))) (mvT hZ (hw _ (List.mem_of_getElem? (i := 4) rfl))) (mvT hZ (hw _ (List.mem_of_getElem? (i := 5) rfl))) (by decide) (backOf (W := 1) (rm1 l Z a0 hw [] b4 q1 (.long (0 : Int64)) (0 : Int64) h4 n0 (Nat.le_trans Z0 E4.1) E_b4 F_m_nLimit_b4 g_b4 F_m_nHeld_b4) hZ (hw _ (List.mem_of_getElem? (i := 5) rfl)) (hw _ (List.mem_of_getElem? (i := 2) rfl)) (by decide) (by decide)) (g := (mkF m 5 #[.val (.long q1), .second, .val (.int p2), .val (.int p3), .unset, .unset, .unset, .unset, .unset, .unset, .unset, .unset, .unset, .unset, .unset] [(.long q1), (.ref b4), (.ref b4)])) rfl (by rw [hml]; rfl) (Steps.refl _) (a := b4) (argsL := [(.long q1)]) (rest := [(.ref b4)]) (lenOf pd_0_0 rfl) rfl (by show 2 * 0 + _ ≤ _; exact Nat.le_of_eq rfl) (hb hby at_5) (fun _ _ => ⟨rfl, e4, (by decide : 1 + 0 ≤ _), (by decide : 2 + 0 ≤ _)⟩)
  dsimp only [Pt.U, Pt.locs, Pt.cells, Pt.slots] at X5 l5 y5 z5 st5 hQ5
  subst l5 y5 z5
  obtain ⟨rfl, N5q, K5, Ex5, Fl5, Fh5⟩ := hQ5      -- what it returned, that it wrote nothing old, and the rest of your Q1
  have N5 := Fr.app N0 N5q
  obtain ⟨cq6, kq6, q6a, q6b, q6c⟩ := isOf hZ rfl (E_b4.keep K5)
  obtain ⟨_, _, ⟨T6, L6, k6, n6⟩, -, X6, ⟨Lc6, hQ6, l6, y6, z6⟩, st6⟩ := X5.virtualBack hx (y := (⟨"com/example/stagewise/stagewise/EarlyGroup", "isFull", "()Z"⟩ : MethodName)) (z := (⟨"com/example/stagewise/stagewise/EarlyGroup", "isFull", "()Z"⟩ : MethodName)) hown (mvT hZ (hw _ (List.mem_of_getElem? (i := 11) rfl))) (mvT hZ (hw _ (List.mem_of_getElem? (i := 12) rfl))) (notFace_of_selects (args := #[]) (mvT hZ (hw _ (List.mem_of_getElem? (i := 14) rfl)))) (mvT hZ (hw _ (List.mem_of_getElem? (i := 14) rfl))) (mvT hZ (hw _ (List.mem_of_getElem? (i := 13) rfl))) (by decide) (backOf (W := 0) (rm3 l Z a0 hw [] b4 (0 : Int64) q1 T5.heap n0 (Nat.le_trans (Nat.le_trans Z0 E4.1) K5.1) Fh5 Fl5) hZ (hw _ (List.mem_of_getElem? (i := 15) rfl)) (hw _ (List.mem_of_getElem? (i := 2) rfl)) (by decide) (by decide)) q6a q6c (g := (mkF m 12 #[.val (.long q1), .second, .val (.int p2), .val (.int p3), .val (.ref b4), .unset, .unset, .unset, .unset, .unset, .unset, .unset, .unset, .unset, .unset] [(.ref b4)])) rfl (by rw [hml]; rfl) (Steps.refl _) (argsL := []) (rest := []) (lenOf pd_0_2 rfl) rfl (by show 2 * 0 + _ ≤ _; exact Nat.le_of_eq rfl) (hb hby at_12) (fun _ _ => ⟨rfl, rfl, (by decide : 1 + 0 ≤ _), (by decide : 2 + 0 ≤ _)⟩)
  dsimp only [Pt.U, Pt.locs, Pt.cells, Pt.slots] at X6 l6 y6 z6 st6 hQ6
  subst l6 y6 z6
  obtain ⟨rfl, N6q, e6⟩ := hQ6      -- what it returned, that it wrote nothing old, and the rest of your Q3
  have N6 := Fr.app N5 N6q
  have Fh6 := e6.symm ▸ Fh5
  have Fl6 := e6.symm ▸ Fl5
  have Ex6 := e6.symm ▸ Ex5
  have Zn6 : n0 ≤ T6.heap.size := by rw [e6]; exact (Nat.le_trans (Nat.le_trans Z0 E4.1) K5.1)
  obtain ⟨cq7, kq7, q7a, q7b, q7c⟩ := isOf hZ rfl ((E_b4.keep K5).keep (own_keep_eq (ws := []) e6))
  obtain ⟨_, _, ⟨T7, L7, k7, n7⟩, -, X7, ⟨Lc7, hQ7, l7, y7, z7⟩, st7⟩ := X6.virtualBack hx (y := (⟨"com/example/stagewise/stagewise/EarlyGroup", "count", "(I)V"⟩ : MethodName)) (z := (⟨"com/example/stagewise/stagewise/EarlyGroup", "count", "(I)V"⟩ : MethodName)) hown (mvT hZ (hw _ (List.mem_of_getElem? (i := 18) rfl))) (mvT hZ (hw _ (List.mem_of_getElem? (i := 19) rfl))) (notFace_of_selects (args := #[]) (mvT hZ (hw _ (List.mem_of_getElem? (i := 21) rfl)))) (mvT hZ (hw _ (List.mem_of_getElem? (i := 21) rfl))) (mvT hZ (hw _ (List.mem_of_getElem? (i := 20) rfl))) (by decide) (backOf (W := 0) (rm4 l Z a0 hw [] b4 p2 (0 : Int64) q1 T6.heap n0 Zn6 Fh6 Ex6 g_b4 Fl6) hZ (hw _ (List.mem_of_getElem? (i := 22) rfl)) (hw _ (List.mem_of_getElem? (i := 2) rfl)) (by decide) (by decide)) q7a q7c (g := (mkF m 20 #[.val (.long q1), .second, .val (.int p2), .val (.int p3), .val (.ref b4), .val (.int (own_sel (if_icmp.holds .lt (lcmpW (0 : Int64) q1) (0 : Int32)) (0 : Int32) (1 : Int32))), .unset, .unset, .unset, .unset, .unset, .unset, .unset, .unset, .unset] [(.int p2), (.ref b4)])) rfl (by rw [hml]; rfl) (Steps.refl _) (argsL := [(.int p2)]) (rest := []) (lenOf pd_0_3 rfl) rfl (by show 2 * 0 + _ ≤ _; exact Nat.le_of_eq rfl) (hb hby at_20) (fun _ _ => ⟨rfl, rfl, (by decide : 1 + 0 ≤ _), (by decide : 2 + 0 ≤ _)⟩)
  dsimp only [Pt.U, Pt.locs, Pt.cells, Pt.slots] at X7 l7 y7 z7 st7 hQ7
  subst l7 y7 z7
  obtain ⟨rfl, N7q, K7, Ex7, Fh7, Fl7⟩ := hQ7      -- what it returned, that it wrote nothing old, and the rest of your Q4
  have N7 := Fr.app N6 N7q
  obtain ⟨cq8, kq8, q8a, q8b, q8c⟩ := isOf hZ rfl (((E_b4.keep K5).keep (own_keep_eq (ws := []) e6)).keep K7)
  obtain ⟨_, _, ⟨T8, L8, k8, n8⟩, -, X8, ⟨Lc8, hQ8, l8, y8, z8⟩, st8⟩ := X7.virtualBack hx (y := (⟨"com/example/stagewise/stagewise/EarlyGroup", "isFull", "()Z"⟩ : MethodName)) (z := (⟨"com/example/stagewise/stagewise/EarlyGroup", "isFull", "()Z"⟩ : MethodName)) hown (mvT hZ (hw _ (List.mem_of_getElem? (i := 11) rfl))) (mvT hZ (hw _ (List.mem_of_getElem? (i := 12) rfl))) (notFace_of_selects (args := #[]) (mvT hZ (hw _ (List.mem_of_getElem? (i := 14) rfl)))) (mvT hZ (hw _ (List.mem_of_getElem? (i := 14) rfl))) (mvT hZ (hw _ (List.mem_of_getElem? (i := 13) rfl))) (by decide) (backOf (W := 0) (rm3 l Z a0 hw [] b4 ((0 : Int64) + p2.toInt64) q1 T7.heap n0 (Nat.le_trans Zn6 K7.1) Fh7 Fl7) hZ (hw _ (List.mem_of_getElem? (i := 15) rfl)) (hw _ (List.mem_of_getElem? (i := 2) rfl)) (by decide) (by decide)) q8a q8c (g := (mkF m 25 #[.val (.long q1), .second, .val (.int p2), .val (.int p3), .val (.ref b4), .val (.int (own_sel (if_icmp.holds .lt (lcmpW (0 : Int64) q1) (0 : Int32)) (0 : Int32) (1 : Int32))), .unset, .unset, .unset, .unset, .unset, .unset, .unset, .unset, .unset] [(.ref b4)])) rfl (by rw [hml]; rfl) (Steps.refl _) (argsL := []) (rest := []) (lenOf pd_0_2 rfl) rfl (by show 2 * 0 + _ ≤ _; exact Nat.le_of_eq rfl) (hb hby at_25) (fun _ _ => ⟨rfl, rfl, (by decide : 1 + 0 ≤ _), (by decide : 2 + 0 ≤ _)⟩)
  dsimp only [Pt.U, Pt.locs, Pt.cells, Pt.slots] at X8 l8 y8 z8 st8 hQ8
  subst l8 y8 z8
  obtain ⟨rfl, N8q, e8⟩ := hQ8      -- what it returned, that it wrote nothing old, and the rest of your Q3
  have N8 := Fr.app N7 N8q
  have Fh8 := e8.symm ▸ Fh7
  have Fl8 := e8.symm ▸ Fl7
  have Ex8 := e8.symm ▸ Ex7
  have Zn8 : n0 ≤ T8.heap.size := by rw [e8]; exact (Nat.le_trans Zn6 K7.1)
  obtain ⟨cq9, kq9, q9a, q9b, q9c⟩ := isOf hZ rfl ((((E_b4.keep K5).keep (own_keep_eq (ws := []) e6)).keep K7).keep (own_keep_eq (ws := []) e8))
  obtain ⟨_, _, ⟨T9, L9, k9, n9⟩, -, X9, ⟨Lc9, hQ9, l9, y9, z9⟩, st9⟩ := X8.virtualBack hx (y := (⟨"com/example/stagewise/stagewise/EarlyGroup", "count", "(I)V"⟩ : MethodName)) (z := (⟨"com/example/stagewise/stagewise/EarlyGroup", "count", "(I)V"⟩ : MethodName)) hown (mvT hZ (hw _ (List.mem_of_getElem? (i := 18) rfl))) (mvT hZ (hw _ (List.mem_of_getElem? (i := 19) rfl))) (notFace_of_selects (args := #[]) (mvT hZ (hw _ (List.mem_of_getElem? (i := 21) rfl)))) (mvT hZ (hw _ (List.mem_of_getElem? (i := 21) rfl))) (mvT hZ (hw _ (List.mem_of_getElem? (i := 20) rfl))) (by decide) (backOf (W := 0) (rm4 l Z a0 hw [] b4 p3 ((0 : Int64) + p2.toInt64) q1 T8.heap n0 Zn8 Fh8 Ex8 g_b4 Fl8) hZ (hw _ (List.mem_of_getElem? (i := 22) rfl)) (hw _ (List.mem_of_getElem? (i := 2) rfl)) (by decide) (by decide)) q9a q9c (g := (mkF m 33 #[.val (.long q1), .second, .val (.int p2), .val (.int p3), .val (.ref b4), .val (.int (own_sel (if_icmp.holds .lt (lcmpW (0 : Int64) q1) (0 : Int32)) (0 : Int32) (1 : Int32))), .val (.int (own_sel (if_icmp.holds .lt (lcmpW ((0 : Int64) + p2.toInt64) q1) (0 : Int32)) (0 : Int32) (1 : Int32))), .unset, .unset, .unset, .unset, .unset, .unset, .unset, .unset] [(.int p3), (.ref b4)])) rfl (by rw [hml]; rfl) (Steps.refl _) (argsL := [(.int p3)]) (rest := []) (lenOf pd_0_3 rfl) rfl (by show 2 * 0 + _ ≤ _; exact Nat.le_of_eq rfl) (hb hby at_33) (fun _ _ => ⟨rfl, rfl, (by decide : 1 + 0 ≤ _), (by decide : 2 + 0 ≤ _)⟩)
  dsimp only [Pt.U, Pt.locs, Pt.cells, Pt.slots] at X9 l9 y9 z9 st9 hQ9
  subst l9 y9 z9
  obtain ⟨rfl, N9q, K9, Ex9, Fh9, Fl9⟩ := hQ9      -- what it returned, that it wrote nothing old, and the rest of your Q4
  have N9 := Fr.app N8 N9q
  obtain ⟨cq10, kq10, q10a, q10b, q10c⟩ := isOf hZ rfl (((((E_b4.keep K5).keep (own_keep_eq (ws := []) e6)).keep K7).keep (own_keep_eq (ws := []) e8)).keep K9)
  obtain ⟨_, _, ⟨T10, L10, k10, n10⟩, -, X10, ⟨Lc10, hQ10, l10, y10, z10⟩, st10⟩ := X9.virtualBack hx (y := (⟨"com/example/stagewise/stagewise/EarlyGroup", "isFull", "()Z"⟩ : MethodName)) (z := (⟨"com/example/stagewise/stagewise/EarlyGroup", "isFull", "()Z"⟩ : MethodName)) hown (mvT hZ (hw _ (List.mem_of_getElem? (i := 11) rfl))) (mvT hZ (hw _ (List.mem_of_getElem? (i := 12) rfl))) (notFace_of_selects (args := #[]) (mvT hZ (hw _ (List.mem_of_getElem? (i := 14) rfl)))) (mvT hZ (hw _ (List.mem_of_getElem? (i := 14) rfl))) (mvT hZ (hw _ (List.mem_of_getElem? (i := 13) rfl))) (by decide) (backOf (W := 0) (rm3 l Z a0 hw [] b4 (((0 : Int64) + p2.toInt64) + p3.toInt64) q1 T9.heap n0 (Nat.le_trans Zn8 K9.1) Fh9 Fl9) hZ (hw _ (List.mem_of_getElem? (i := 15) rfl)) (hw _ (List.mem_of_getElem? (i := 2) rfl)) (by decide) (by decide)) q10a q10c (g := (mkF m 38 #[.val (.long q1), .second, .val (.int p2), .val (.int p3), .val (.ref b4), .val (.int (own_sel (if_icmp.holds .lt (lcmpW (0 : Int64) q1) (0 : Int32)) (0 : Int32) (1 : Int32))), .val (.int (own_sel (if_icmp.holds .lt (lcmpW ((0 : Int64) + p2.toInt64) q1) (0 : Int32)) (0 : Int32) (1 : Int32))), .unset, .unset, .unset, .unset, .unset, .unset, .unset, .unset] [(.ref b4)])) rfl (by rw [hml]; rfl) (Steps.refl _) (argsL := []) (rest := []) (lenOf pd_0_2 rfl) rfl (by show 2 * 0 + _ ≤ _; exact Nat.le_of_eq rfl) (hb hby at_38) (fun _ _ => ⟨rfl, rfl, (by decide : 1 + 0 ≤ _), (by decide : 2 + 0 ≤ _)⟩)
  dsimp only [Pt.U, Pt.locs, Pt.cells, Pt.slots] at X10 l10 y10 z10 st10 hQ10
  subst l10 y10 z10
  obtain ⟨rfl, N10q, e10⟩ := hQ10      -- what it returned, that it wrote nothing old, and the rest of your Q3
  have N10 := Fr.app N9 N10q
  obtain ⟨fs, hr, hrun, hended, hW, hsame⟩ := X10.leave (v := some (.int (1 : Int32))) (fun h => by rw [Bd.returns] at h; cases h)
  refine ⟨_, _, pre0 _ ?_, hrun, hended, _, _, rfl, ?_, ⟨_, rfl⟩, hW, hsame.mono (by decide) (by decide)⟩
  · show Steps p.tables e below (s₁.setTop (mkF m 0 #[.val (.long q1), .second, .val (.int p2), .val (.int p3), .unset, .unset, .unset, .unset, .unset, .unset, .unset, .unset, .unset, .unset, .unset] [])) _
    refine st4 _ ?_
    show Steps p.tables e below (T4.setTop (mkF m 3 #[.val (.long q1), .second, .val (.int p2), .val (.int p3), .unset, .unset, .unset, .unset, .unset, .unset, .unset, .unset, .unset, .unset, .unset] [(.ref b4)])) _
    refine XS.dup X4.here hx rfl (hb hby at_3) rfl rfl ?_
    show Steps p.tables e below (T4.setTop (mkF m 4 #[.val (.long q1), .second, .val (.int p2), .val (.int p3), .unset, .unset, .unset, .unset, .unset, .unset, .unset, .unset, .unset, .unset, .unset] [(.ref b4), (.ref b4)])) _
    refine XS.lloadN X4.here hx rfl (hb hby at_4) rfl ?_
    show Steps p.tables e below (T4.setTop (mkF m 5 #[.val (.long q1), .second, .val (.int p2), .val (.int p3), .unset, .unset, .unset, .unset, .unset, .unset, .unset, .unset, .unset, .unset, .unset] [(.long q1), (.ref b4), (.ref b4)])) _
    refine st5.trans ?_
    show Steps p.tables e below (T5.setTop (mkF m 8 #[.val (.long q1), .second, .val (.int p2), .val (.int p3), .unset, .unset, .unset, .unset, .unset, .unset, .unset, .unset, .unset, .unset, .unset] [(.ref b4)])) _
    refine XS.astore X5.here hx rfl (hb hby at_8) rfl rfl (l' := #[.val (.long q1), .second, .val (.int p2), .val (.int p3), .val (.ref b4), .unset, .unset, .unset, .unset, .unset, .unset, .unset, .unset, .unset, .unset]) rfl ?_
    show Steps p.tables e below (T5.setTop (mkF m 10 #[.val (.long q1), .second, .val (.int p2), .val (.int p3), .val (.ref b4), .unset, .unset, .unset, .unset, .unset, .unset, .unset, .unset, .unset, .unset] [])) _
    refine XS.aload X5.here hx rfl (hb hby at_10) rfl rfl ?_
    show Steps p.tables e below (T5.setTop (mkF m 12 #[.val (.long q1), .second, .val (.int p2), .val (.int p3), .val (.ref b4), .unset, .unset, .unset, .unset, .unset, .unset, .unset, .unset, .unset, .unset] [(.ref b4)])) _
    refine st6.trans ?_
    show Steps p.tables e below (T6.setTop (mkF m 15 #[.val (.long q1), .second, .val (.int p2), .val (.int p3), .val (.ref b4), .unset, .unset, .unset, .unset, .unset, .unset, .unset, .unset, .unset, .unset] [(.int (own_sel (if_icmp.holds .lt (lcmpW (0 : Int64) q1) (0 : Int32)) (0 : Int32) (1 : Int32)))])) _
    refine XS.istore X6.here hx rfl (hb hby at_15) rfl (l' := #[.val (.long q1), .second, .val (.int p2), .val (.int p3), .val (.ref b4), .val (.int (own_sel (if_icmp.holds .lt (lcmpW (0 : Int64) q1) (0 : Int32)) (0 : Int32) (1 : Int32))), .unset, .unset, .unset, .unset, .unset, .unset, .unset, .unset, .unset]) rfl ?_
    show Steps p.tables e below (T6.setTop (mkF m 17 #[.val (.long q1), .second, .val (.int p2), .val (.int p3), .val (.ref b4), .val (.int (own_sel (if_icmp.holds .lt (lcmpW (0 : Int64) q1) (0 : Int32)) (0 : Int32) (1 : Int32))), .unset, .unset, .unset, .unset, .unset, .unset, .unset, .unset, .unset] [])) _
    refine XS.aload X6.here hx rfl (hb hby at_17) rfl rfl ?_
    show Steps p.tables e below (T6.setTop (mkF m 19 #[.val (.long q1), .second, .val (.int p2), .val (.int p3), .val (.ref b4), .val (.int (own_sel (if_icmp.holds .lt (lcmpW (0 : Int64) q1) (0 : Int32)) (0 : Int32) (1 : Int32))), .unset, .unset, .unset, .unset, .unset, .unset, .unset, .unset, .unset] [(.ref b4)])) _
    refine XS.iloadN X6.here hx rfl (hb hby at_19) rfl ?_
    show Steps p.tables e below (T6.setTop (mkF m 20 #[.val (.long q1), .second, .val (.int p2), .val (.int p3), .val (.ref b4), .val (.int (own_sel (if_icmp.holds .lt (lcmpW (0 : Int64) q1) (0 : Int32)) (0 : Int32) (1 : Int32))), .unset, .unset, .unset, .unset, .unset, .unset, .unset, .unset, .unset] [(.int p2), (.ref b4)])) _
    refine st7.trans ?_
    show Steps p.tables e below (T7.setTop (mkF m 23 #[.val (.long q1), .second, .val (.int p2), .val (.int p3), .val (.ref b4), .val (.int (own_sel (if_icmp.holds .lt (lcmpW (0 : Int64) q1) (0 : Int32)) (0 : Int32) (1 : Int32))), .unset, .unset, .unset, .unset, .unset, .unset, .unset, .unset, .unset] [])) _
    refine XS.aload X7.here hx rfl (hb hby at_23) rfl rfl ?_
    show Steps p.tables e below (T7.setTop (mkF m 25 #[.val (.long q1), .second, .val (.int p2), .val (.int p3), .val (.ref b4), .val (.int (own_sel (if_icmp.holds .lt (lcmpW (0 : Int64) q1) (0 : Int32)) (0 : Int32) (1 : Int32))), .unset, .unset, .unset, .unset, .unset, .unset, .unset, .unset, .unset] [(.ref b4)])) _
    refine st8.trans ?_
    show Steps p.tables e below (T8.setTop (mkF m 28 #[.val (.long q1), .second, .val (.int p2), .val (.int p3), .val (.ref b4), .val (.int (own_sel (if_icmp.holds .lt (lcmpW (0 : Int64) q1) (0 : Int32)) (0 : Int32) (1 : Int32))), .unset, .unset, .unset, .unset, .unset, .unset, .unset, .unset, .unset] [(.int (own_sel (if_icmp.holds .lt (lcmpW ((0 : Int64) + p2.toInt64) q1) (0 : Int32)) (0 : Int32) (1 : Int32)))])) _
    refine XS.istore X8.here hx rfl (hb hby at_28) rfl (l' := #[.val (.long q1), .second, .val (.int p2), .val (.int p3), .val (.ref b4), .val (.int (own_sel (if_icmp.holds .lt (lcmpW (0 : Int64) q1) (0 : Int32)) (0 : Int32) (1 : Int32))), .val (.int (own_sel (if_icmp.holds .lt (lcmpW ((0 : Int64) + p2.toInt64) q1) (0 : Int32)) (0 : Int32) (1 : Int32))), .unset, .unset, .unset, .unset, .unset, .unset, .unset, .unset]) rfl ?_
    show Steps p.tables e below (T8.setTop (mkF m 30 #[.val (.long q1), .second, .val (.int p2), .val (.int p3), .val (.ref b4), .val (.int (own_sel (if_icmp.holds .lt (lcmpW (0 : Int64) q1) (0 : Int32)) (0 : Int32) (1 : Int32))), .val (.int (own_sel (if_icmp.holds .lt (lcmpW ((0 : Int64) + p2.toInt64) q1) (0 : Int32)) (0 : Int32) (1 : Int32))), .unset, .unset, .unset, .unset, .unset, .unset, .unset, .unset] [])) _
    refine XS.aload X8.here hx rfl (hb hby at_30) rfl rfl ?_
    show Steps p.tables e below (T8.setTop (mkF m 32 #[.val (.long q1), .second, .val (.int p2), .val (.int p3), .val (.ref b4), .val (.int (own_sel (if_icmp.holds .lt (lcmpW (0 : Int64) q1) (0 : Int32)) (0 : Int32) (1 : Int32))), .val (.int (own_sel (if_icmp.holds .lt (lcmpW ((0 : Int64) + p2.toInt64) q1) (0 : Int32)) (0 : Int32) (1 : Int32))), .unset, .unset, .unset, .unset, .unset, .unset, .unset, .unset] [(.ref b4)])) _
    refine XS.iloadN X8.here hx rfl (hb hby at_32) rfl ?_
    show Steps p.tables e below (T8.setTop (mkF m 33 #[.val (.long q1), .second, .val (.int p2), .val (.int p3), .val (.ref b4), .val (.int (own_sel (if_icmp.holds .lt (lcmpW (0 : Int64) q1) (0 : Int32)) (0 : Int32) (1 : Int32))), .val (.int (own_sel (if_icmp.holds .lt (lcmpW ((0 : Int64) + p2.toInt64) q1) (0 : Int32)) (0 : Int32) (1 : Int32))), .unset, .unset, .unset, .unset, .unset, .unset, .unset, .unset] [(.int p3), (.ref b4)])) _
    refine st9.trans ?_
    show Steps p.tables e below (T9.setTop (mkF m 36 #[.val (.long q1), .second, .val (.int p2), .val (.int p3), .val (.ref b4), .val (.int (own_sel (if_icmp.holds .lt (lcmpW (0 : Int64) q1) (0 : Int32)) (0 : Int32) (1 : Int32))), .val (.int (own_sel (if_icmp.holds .lt (lcmpW ((0 : Int64) + p2.toInt64) q1) (0 : Int32)) (0 : Int32) (1 : Int32))), .unset, .unset, .unset, .unset, .unset, .unset, .unset, .unset] [])) _
    refine XS.aload X9.here hx rfl (hb hby at_36) rfl rfl ?_
    show Steps p.tables e below (T9.setTop (mkF m 38 #[.val (.long q1), .second, .val (.int p2), .val (.int p3), .val (.ref b4), .val (.int (own_sel (if_icmp.holds .lt (lcmpW (0 : Int64) q1) (0 : Int32)) (0 : Int32) (1 : Int32))), .val (.int (own_sel (if_icmp.holds .lt (lcmpW ((0 : Int64) + p2.toInt64) q1) (0 : Int32)) (0 : Int32) (1 : Int32))), .unset, .unset, .unset, .unset, .unset, .unset, .unset, .unset] [(.ref b4)])) _
    refine st10.trans ?_
    show Steps p.tables e below (T10.setTop (mkF m 41 #[.val (.long q1), .second, .val (.int p2), .val (.int p3), .val (.ref b4), .val (.int (own_sel (if_icmp.holds .lt (lcmpW (0 : Int64) q1) (0 : Int32)) (0 : Int32) (1 : Int32))), .val (.int (own_sel (if_icmp.holds .lt (lcmpW ((0 : Int64) + p2.toInt64) q1) (0 : Int32)) (0 : Int32) (1 : Int32))), .unset, .unset, .unset, .unset, .unset, .unset, .unset, .unset] [(.int (own_sel (if_icmp.holds .lt (lcmpW (((0 : Int64) + p2.toInt64) + p3.toInt64) q1) (0 : Int32)) (0 : Int32) (1 : Int32)))])) _
    refine XS.istore X10.here hx rfl (hb hby at_41) rfl (l' := #[.val (.long q1), .second, .val (.int p2), .val (.int p3), .val (.ref b4), .val (.int (own_sel (if_icmp.holds .lt (lcmpW (0 : Int64) q1) (0 : Int32)) (0 : Int32) (1 : Int32))), .val (.int (own_sel (if_icmp.holds .lt (lcmpW ((0 : Int64) + p2.toInt64) q1) (0 : Int32)) (0 : Int32) (1 : Int32))), .val (.int (own_sel (if_icmp.holds .lt (lcmpW (((0 : Int64) + p2.toInt64) + p3.toInt64) q1) (0 : Int32)) (0 : Int32) (1 : Int32))), .unset, .unset, .unset, .unset, .unset, .unset, .unset]) rfl ?_
    show Steps p.tables e below (T10.setTop (mkF m 43 #[.val (.long q1), .second, .val (.int p2), .val (.int p3), .val (.ref b4), .val (.int (own_sel (if_icmp.holds .lt (lcmpW (0 : Int64) q1) (0 : Int32)) (0 : Int32) (1 : Int32))), .val (.int (own_sel (if_icmp.holds .lt (lcmpW ((0 : Int64) + p2.toInt64) q1) (0 : Int32)) (0 : Int32) (1 : Int32))), .val (.int (own_sel (if_icmp.holds .lt (lcmpW (((0 : Int64) + p2.toInt64) + p3.toInt64) q1) (0 : Int32)) (0 : Int32) (1 : Int32))), .unset, .unset, .unset, .unset, .unset, .unset, .unset] [])) _
    refine XS.iloadN X10.here hx rfl (hb hby at_43) rfl ?_
    show Steps p.tables e below (T10.setTop (mkF m 44 #[.val (.long q1), .second, .val (.int p2), .val (.int p3), .val (.ref b4), .val (.int (own_sel (if_icmp.holds .lt (lcmpW (0 : Int64) q1) (0 : Int32)) (0 : Int32) (1 : Int32))), .val (.int (own_sel (if_icmp.holds .lt (lcmpW ((0 : Int64) + p2.toInt64) q1) (0 : Int32)) (0 : Int32) (1 : Int32))), .val (.int (own_sel (if_icmp.holds .lt (lcmpW (((0 : Int64) + p2.toInt64) + p3.toInt64) q1) (0 : Int32)) (0 : Int32) (1 : Int32))), .unset, .unset, .unset, .unset, .unset, .unset, .unset] [(.int p2)])) _
    refine XS.i2l X10.here hx rfl (hb hby at_44) rfl ?_
    show Steps p.tables e below (T10.setTop (mkF m 45 #[.val (.long q1), .second, .val (.int p2), .val (.int p3), .val (.ref b4), .val (.int (own_sel (if_icmp.holds .lt (lcmpW (0 : Int64) q1) (0 : Int32)) (0 : Int32) (1 : Int32))), .val (.int (own_sel (if_icmp.holds .lt (lcmpW ((0 : Int64) + p2.toInt64) q1) (0 : Int32)) (0 : Int32) (1 : Int32))), .val (.int (own_sel (if_icmp.holds .lt (lcmpW (((0 : Int64) + p2.toInt64) + p3.toInt64) q1) (0 : Int32)) (0 : Int32) (1 : Int32))), .unset, .unset, .unset, .unset, .unset, .unset, .unset] [(.long (p2.toInt64))])) _
    refine XS.lstore X10.here hx rfl (hb hby at_45) rfl (l' := #[.val (.long q1), .second, .val (.int p2), .val (.int p3), .val (.ref b4), .val (.int (own_sel (if_icmp.holds .lt (lcmpW (0 : Int64) q1) (0 : Int32)) (0 : Int32) (1 : Int32))), .val (.int (own_sel (if_icmp.holds .lt (lcmpW ((0 : Int64) + p2.toInt64) q1) (0 : Int32)) (0 : Int32) (1 : Int32))), .val (.int (own_sel (if_icmp.holds .lt (lcmpW (((0 : Int64) + p2.toInt64) + p3.toInt64) q1) (0 : Int32)) (0 : Int32) (1 : Int32))), .val (.long (p2.toInt64)), .second, .unset, .unset, .unset, .unset, .unset]) rfl ?_
    show Steps p.tables e below (T10.setTop (mkF m 47 #[.val (.long q1), .second, .val (.int p2), .val (.int p3), .val (.ref b4), .val (.int (own_sel (if_icmp.holds .lt (lcmpW (0 : Int64) q1) (0 : Int32)) (0 : Int32) (1 : Int32))), .val (.int (own_sel (if_icmp.holds .lt (lcmpW ((0 : Int64) + p2.toInt64) q1) (0 : Int32)) (0 : Int32) (1 : Int32))), .val (.int (own_sel (if_icmp.holds .lt (lcmpW (((0 : Int64) + p2.toInt64) + p3.toInt64) q1) (0 : Int32)) (0 : Int32) (1 : Int32))), .val (.long (p2.toInt64)), .second, .unset, .unset, .unset, .unset, .unset] [])) _
    refine XS.iloadN X10.here hx rfl (hb hby at_47) rfl ?_
    show Steps p.tables e below (T10.setTop (mkF m 48 #[.val (.long q1), .second, .val (.int p2), .val (.int p3), .val (.ref b4), .val (.int (own_sel (if_icmp.holds .lt (lcmpW (0 : Int64) q1) (0 : Int32)) (0 : Int32) (1 : Int32))), .val (.int (own_sel (if_icmp.holds .lt (lcmpW ((0 : Int64) + p2.toInt64) q1) (0 : Int32)) (0 : Int32) (1 : Int32))), .val (.int (own_sel (if_icmp.holds .lt (lcmpW (((0 : Int64) + p2.toInt64) + p3.toInt64) q1) (0 : Int32)) (0 : Int32) (1 : Int32))), .val (.long (p2.toInt64)), .second, .unset, .unset, .unset, .unset, .unset] [(.int p2)])) _
    refine XS.i2l X10.here hx rfl (hb hby at_48) rfl ?_
    show Steps p.tables e below (T10.setTop (mkF m 49 #[.val (.long q1), .second, .val (.int p2), .val (.int p3), .val (.ref b4), .val (.int (own_sel (if_icmp.holds .lt (lcmpW (0 : Int64) q1) (0 : Int32)) (0 : Int32) (1 : Int32))), .val (.int (own_sel (if_icmp.holds .lt (lcmpW ((0 : Int64) + p2.toInt64) q1) (0 : Int32)) (0 : Int32) (1 : Int32))), .val (.int (own_sel (if_icmp.holds .lt (lcmpW (((0 : Int64) + p2.toInt64) + p3.toInt64) q1) (0 : Int32)) (0 : Int32) (1 : Int32))), .val (.long (p2.toInt64)), .second, .unset, .unset, .unset, .unset, .unset] [(.long (p2.toInt64))])) _
    refine XS.iloadN X10.here hx rfl (hb hby at_49) rfl ?_
    show Steps p.tables e below (T10.setTop (mkF m 50 #[.val (.long q1), .second, .val (.int p2), .val (.int p3), .val (.ref b4), .val (.int (own_sel (if_icmp.holds .lt (lcmpW (0 : Int64) q1) (0 : Int32)) (0 : Int32) (1 : Int32))), .val (.int (own_sel (if_icmp.holds .lt (lcmpW ((0 : Int64) + p2.toInt64) q1) (0 : Int32)) (0 : Int32) (1 : Int32))), .val (.int (own_sel (if_icmp.holds .lt (lcmpW (((0 : Int64) + p2.toInt64) + p3.toInt64) q1) (0 : Int32)) (0 : Int32) (1 : Int32))), .val (.long (p2.toInt64)), .second, .unset, .unset, .unset, .unset, .unset] [(.int p3), (.long (p2.toInt64))])) _
    refine XS.i2l X10.here hx rfl (hb hby at_50) rfl ?_
    show Steps p.tables e below (T10.setTop (mkF m 51 #[.val (.long q1), .second, .val (.int p2), .val (.int p3), .val (.ref b4), .val (.int (own_sel (if_icmp.holds .lt (lcmpW (0 : Int64) q1) (0 : Int32)) (0 : Int32) (1 : Int32))), .val (.int (own_sel (if_icmp.holds .lt (lcmpW ((0 : Int64) + p2.toInt64) q1) (0 : Int32)) (0 : Int32) (1 : Int32))), .val (.int (own_sel (if_icmp.holds .lt (lcmpW (((0 : Int64) + p2.toInt64) + p3.toInt64) q1) (0 : Int32)) (0 : Int32) (1 : Int32))), .val (.long (p2.toInt64)), .second, .unset, .unset, .unset, .unset, .unset] [(.long (p3.toInt64)), (.long (p2.toInt64))])) _
    refine XS.ladd X10.here hx rfl (hb hby at_51) rfl ?_
    show Steps p.tables e below (T10.setTop (mkF m 52 #[.val (.long q1), .second, .val (.int p2), .val (.int p3), .val (.ref b4), .val (.int (own_sel (if_icmp.holds .lt (lcmpW (0 : Int64) q1) (0 : Int32)) (0 : Int32) (1 : Int32))), .val (.int (own_sel (if_icmp.holds .lt (lcmpW ((0 : Int64) + p2.toInt64) q1) (0 : Int32)) (0 : Int32) (1 : Int32))), .val (.int (own_sel (if_icmp.holds .lt (lcmpW (((0 : Int64) + p2.toInt64) + p3.toInt64) q1) (0 : Int32)) (0 : Int32) (1 : Int32))), .val (.long (p2.toInt64)), .second, .unset, .unset, .unset, .unset, .unset] [(.long ((p2.toInt64) + (p3.toInt64)))])) _
    refine XS.lstore X10.here hx rfl (hb hby at_52) rfl (l' := #[.val (.long q1), .second, .val (.int p2), .val (.int p3), .val (.ref b4), .val (.int (own_sel (if_icmp.holds .lt (lcmpW (0 : Int64) q1) (0 : Int32)) (0 : Int32) (1 : Int32))), .val (.int (own_sel (if_icmp.holds .lt (lcmpW ((0 : Int64) + p2.toInt64) q1) (0 : Int32)) (0 : Int32) (1 : Int32))), .val (.int (own_sel (if_icmp.holds .lt (lcmpW (((0 : Int64) + p2.toInt64) + p3.toInt64) q1) (0 : Int32)) (0 : Int32) (1 : Int32))), .val (.long (p2.toInt64)), .second, .val (.long ((p2.toInt64) + (p3.toInt64))), .second, .unset, .unset, .unset]) rfl ?_
    show Steps p.tables e below (T10.setTop (mkF m 54 #[.val (.long q1), .second, .val (.int p2), .val (.int p3), .val (.ref b4), .val (.int (own_sel (if_icmp.holds .lt (lcmpW (0 : Int64) q1) (0 : Int32)) (0 : Int32) (1 : Int32))), .val (.int (own_sel (if_icmp.holds .lt (lcmpW ((0 : Int64) + p2.toInt64) q1) (0 : Int32)) (0 : Int32) (1 : Int32))), .val (.int (own_sel (if_icmp.holds .lt (lcmpW (((0 : Int64) + p2.toInt64) + p3.toInt64) q1) (0 : Int32)) (0 : Int32) (1 : Int32))), .val (.long (p2.toInt64)), .second, .val (.long ((p2.toInt64) + (p3.toInt64))), .second, .unset, .unset, .unset] [])) _
    refine XS.lconst X10.here hx rfl (hb hby at_54) ?_
    show Steps p.tables e below (T10.setTop (mkF m 55 #[.val (.long q1), .second, .val (.int p2), .val (.int p3), .val (.ref b4), .val (.int (own_sel (if_icmp.holds .lt (lcmpW (0 : Int64) q1) (0 : Int32)) (0 : Int32) (1 : Int32))), .val (.int (own_sel (if_icmp.holds .lt (lcmpW ((0 : Int64) + p2.toInt64) q1) (0 : Int32)) (0 : Int32) (1 : Int32))), .val (.int (own_sel (if_icmp.holds .lt (lcmpW (((0 : Int64) + p2.toInt64) + p3.toInt64) q1) (0 : Int32)) (0 : Int32) (1 : Int32))), .val (.long (p2.toInt64)), .second, .val (.long ((p2.toInt64) + (p3.toInt64))), .second, .unset, .unset, .unset] [(.long (0 : Int64))])) _
    refine XS.lloadN X10.here hx rfl (hb hby at_55) rfl ?_
    show Steps p.tables e below (T10.setTop (mkF m 56 #[.val (.long q1), .second, .val (.int p2), .val (.int p3), .val (.ref b4), .val (.int (own_sel (if_icmp.holds .lt (lcmpW (0 : Int64) q1) (0 : Int32)) (0 : Int32) (1 : Int32))), .val (.int (own_sel (if_icmp.holds .lt (lcmpW ((0 : Int64) + p2.toInt64) q1) (0 : Int32)) (0 : Int32) (1 : Int32))), .val (.int (own_sel (if_icmp.holds .lt (lcmpW (((0 : Int64) + p2.toInt64) + p3.toInt64) q1) (0 : Int32)) (0 : Int32) (1 : Int32))), .val (.long (p2.toInt64)), .second, .val (.long ((p2.toInt64) + (p3.toInt64))), .second, .unset, .unset, .unset] [(.long q1), (.long (0 : Int64))])) _
    refine XS.lcmp X10.here hx rfl (hb hby at_56) rfl ?_
    show Steps p.tables e below (T10.setTop (mkF m 57 #[.val (.long q1), .second, .val (.int p2), .val (.int p3), .val (.ref b4), .val (.int (own_sel (if_icmp.holds .lt (lcmpW (0 : Int64) q1) (0 : Int32)) (0 : Int32) (1 : Int32))), .val (.int (own_sel (if_icmp.holds .lt (lcmpW ((0 : Int64) + p2.toInt64) q1) (0 : Int32)) (0 : Int32) (1 : Int32))), .val (.int (own_sel (if_icmp.holds .lt (lcmpW (((0 : Int64) + p2.toInt64) + p3.toInt64) q1) (0 : Int32)) (0 : Int32) (1 : Int32))), .val (.long (p2.toInt64)), .second, .val (.long ((p2.toInt64) + (p3.toInt64))), .second, .unset, .unset, .unset] [(.int (lcmpW (0 : Int64) q1))])) _
    refine own_bif X10.here hx rfl (pc0 := 57) rfl (hb hby at_57) (hb hby at_60) (hb hby at_61) (hb hby at_64) rfl ?_
    show Steps p.tables e below (T10.setTop (mkF m 65 #[.val (.long q1), .second, .val (.int p2), .val (.int p3), .val (.ref b4), .val (.int (own_sel (if_icmp.holds .lt (lcmpW (0 : Int64) q1) (0 : Int32)) (0 : Int32) (1 : Int32))), .val (.int (own_sel (if_icmp.holds .lt (lcmpW ((0 : Int64) + p2.toInt64) q1) (0 : Int32)) (0 : Int32) (1 : Int32))), .val (.int (own_sel (if_icmp.holds .lt (lcmpW (((0 : Int64) + p2.toInt64) + p3.toInt64) q1) (0 : Int32)) (0 : Int32) (1 : Int32))), .val (.long (p2.toInt64)), .second, .val (.long ((p2.toInt64) + (p3.toInt64))), .second, .unset, .unset, .unset] [(.int (own_sel (if_icmp.holds .lt (lcmpW (0 : Int64) q1) (0 : Int32)) (0 : Int32) (1 : Int32)))])) _
    refine XS.istore X10.here hx rfl (hb hby at_65) rfl (l' := #[.val (.long q1), .second, .val (.int p2), .val (.int p3), .val (.ref b4), .val (.int (own_sel (if_icmp.holds .lt (lcmpW (0 : Int64) q1) (0 : Int32)) (0 : Int32) (1 : Int32))), .val (.int (own_sel (if_icmp.holds .lt (lcmpW ((0 : Int64) + p2.toInt64) q1) (0 : Int32)) (0 : Int32) (1 : Int32))), .val (.int (own_sel (if_icmp.holds .lt (lcmpW (((0 : Int64) + p2.toInt64) + p3.toInt64) q1) (0 : Int32)) (0 : Int32) (1 : Int32))), .val (.long (p2.toInt64)), .second, .val (.long ((p2.toInt64) + (p3.toInt64))), .second, .val (.int (own_sel (if_icmp.holds .lt (lcmpW (0 : Int64) q1) (0 : Int32)) (0 : Int32) (1 : Int32))), .unset, .unset]) rfl ?_
    show Steps p.tables e below (T10.setTop (mkF m 67 #[.val (.long q1), .second, .val (.int p2), .val (.int p3), .val (.ref b4), .val (.int (own_sel (if_icmp.holds .lt (lcmpW (0 : Int64) q1) (0 : Int32)) (0 : Int32) (1 : Int32))), .val (.int (own_sel (if_icmp.holds .lt (lcmpW ((0 : Int64) + p2.toInt64) q1) (0 : Int32)) (0 : Int32) (1 : Int32))), .val (.int (own_sel (if_icmp.holds .lt (lcmpW (((0 : Int64) + p2.toInt64) + p3.toInt64) q1) (0 : Int32)) (0 : Int32) (1 : Int32))), .val (.long (p2.toInt64)), .second, .val (.long ((p2.toInt64) + (p3.toInt64))), .second, .val (.int (own_sel (if_icmp.holds .lt (lcmpW (0 : Int64) q1) (0 : Int32)) (0 : Int32) (1 : Int32))), .unset, .unset] [])) _
    refine XS.lload X10.here hx rfl (hb hby at_67) rfl ?_
    show Steps p.tables e below (T10.setTop (mkF m 69 #[.val (.long q1), .second, .val (.int p2), .val (.int p3), .val (.ref b4), .val (.int (own_sel (if_icmp.holds .lt (lcmpW (0 : Int64) q1) (0 : Int32)) (0 : Int32) (1 : Int32))), .val (.int (own_sel (if_icmp.holds .lt (lcmpW ((0 : Int64) + p2.toInt64) q1) (0 : Int32)) (0 : Int32) (1 : Int32))), .val (.int (own_sel (if_icmp.holds .lt (lcmpW (((0 : Int64) + p2.toInt64) + p3.toInt64) q1) (0 : Int32)) (0 : Int32) (1 : Int32))), .val (.long (p2.toInt64)), .second, .val (.long ((p2.toInt64) + (p3.toInt64))), .second, .val (.int (own_sel (if_icmp.holds .lt (lcmpW (0 : Int64) q1) (0 : Int32)) (0 : Int32) (1 : Int32))), .unset, .unset] [(.long (p2.toInt64))])) _
    refine XS.lloadN X10.here hx rfl (hb hby at_69) rfl ?_
    show Steps p.tables e below (T10.setTop (mkF m 70 #[.val (.long q1), .second, .val (.int p2), .val (.int p3), .val (.ref b4), .val (.int (own_sel (if_icmp.holds .lt (lcmpW (0 : Int64) q1) (0 : Int32)) (0 : Int32) (1 : Int32))), .val (.int (own_sel (if_icmp.holds .lt (lcmpW ((0 : Int64) + p2.toInt64) q1) (0 : Int32)) (0 : Int32) (1 : Int32))), .val (.int (own_sel (if_icmp.holds .lt (lcmpW (((0 : Int64) + p2.toInt64) + p3.toInt64) q1) (0 : Int32)) (0 : Int32) (1 : Int32))), .val (.long (p2.toInt64)), .second, .val (.long ((p2.toInt64) + (p3.toInt64))), .second, .val (.int (own_sel (if_icmp.holds .lt (lcmpW (0 : Int64) q1) (0 : Int32)) (0 : Int32) (1 : Int32))), .unset, .unset] [(.long q1), (.long (p2.toInt64))])) _
    refine XS.lcmp X10.here hx rfl (hb hby at_70) rfl ?_
    show Steps p.tables e below (T10.setTop (mkF m 71 #[.val (.long q1), .second, .val (.int p2), .val (.int p3), .val (.ref b4), .val (.int (own_sel (if_icmp.holds .lt (lcmpW (0 : Int64) q1) (0 : Int32)) (0 : Int32) (1 : Int32))), .val (.int (own_sel (if_icmp.holds .lt (lcmpW ((0 : Int64) + p2.toInt64) q1) (0 : Int32)) (0 : Int32) (1 : Int32))), .val (.int (own_sel (if_icmp.holds .lt (lcmpW (((0 : Int64) + p2.toInt64) + p3.toInt64) q1) (0 : Int32)) (0 : Int32) (1 : Int32))), .val (.long (p2.toInt64)), .second, .val (.long ((p2.toInt64) + (p3.toInt64))), .second, .val (.int (own_sel (if_icmp.holds .lt (lcmpW (0 : Int64) q1) (0 : Int32)) (0 : Int32) (1 : Int32))), .unset, .unset] [(.int (lcmpW (p2.toInt64) q1))])) _
    refine own_bif X10.here hx rfl (pc0 := 71) rfl (hb hby at_71) (hb hby at_74) (hb hby at_75) (hb hby at_78) rfl ?_
    show Steps p.tables e below (T10.setTop (mkF m 79 #[.val (.long q1), .second, .val (.int p2), .val (.int p3), .val (.ref b4), .val (.int (own_sel (if_icmp.holds .lt (lcmpW (0 : Int64) q1) (0 : Int32)) (0 : Int32) (1 : Int32))), .val (.int (own_sel (if_icmp.holds .lt (lcmpW ((0 : Int64) + p2.toInt64) q1) (0 : Int32)) (0 : Int32) (1 : Int32))), .val (.int (own_sel (if_icmp.holds .lt (lcmpW (((0 : Int64) + p2.toInt64) + p3.toInt64) q1) (0 : Int32)) (0 : Int32) (1 : Int32))), .val (.long (p2.toInt64)), .second, .val (.long ((p2.toInt64) + (p3.toInt64))), .second, .val (.int (own_sel (if_icmp.holds .lt (lcmpW (0 : Int64) q1) (0 : Int32)) (0 : Int32) (1 : Int32))), .unset, .unset] [(.int (own_sel (if_icmp.holds .lt (lcmpW (p2.toInt64) q1) (0 : Int32)) (0 : Int32) (1 : Int32)))])) _
    refine XS.istore X10.here hx rfl (hb hby at_79) rfl (l' := #[.val (.long q1), .second, .val (.int p2), .val (.int p3), .val (.ref b4), .val (.int (own_sel (if_icmp.holds .lt (lcmpW (0 : Int64) q1) (0 : Int32)) (0 : Int32) (1 : Int32))), .val (.int (own_sel (if_icmp.holds .lt (lcmpW ((0 : Int64) + p2.toInt64) q1) (0 : Int32)) (0 : Int32) (1 : Int32))), .val (.int (own_sel (if_icmp.holds .lt (lcmpW (((0 : Int64) + p2.toInt64) + p3.toInt64) q1) (0 : Int32)) (0 : Int32) (1 : Int32))), .val (.long (p2.toInt64)), .second, .val (.long ((p2.toInt64) + (p3.toInt64))), .second, .val (.int (own_sel (if_icmp.holds .lt (lcmpW (0 : Int64) q1) (0 : Int32)) (0 : Int32) (1 : Int32))), .val (.int (own_sel (if_icmp.holds .lt (lcmpW (p2.toInt64) q1) (0 : Int32)) (0 : Int32) (1 : Int32))), .unset]) rfl ?_
    show Steps p.tables e below (T10.setTop (mkF m 81 #[.val (.long q1), .second, .val (.int p2), .val (.int p3), .val (.ref b4), .val (.int (own_sel (if_icmp.holds .lt (lcmpW (0 : Int64) q1) (0 : Int32)) (0 : Int32) (1 : Int32))), .val (.int (own_sel (if_icmp.holds .lt (lcmpW ((0 : Int64) + p2.toInt64) q1) (0 : Int32)) (0 : Int32) (1 : Int32))), .val (.int (own_sel (if_icmp.holds .lt (lcmpW (((0 : Int64) + p2.toInt64) + p3.toInt64) q1) (0 : Int32)) (0 : Int32) (1 : Int32))), .val (.long (p2.toInt64)), .second, .val (.long ((p2.toInt64) + (p3.toInt64))), .second, .val (.int (own_sel (if_icmp.holds .lt (lcmpW (0 : Int64) q1) (0 : Int32)) (0 : Int32) (1 : Int32))), .val (.int (own_sel (if_icmp.holds .lt (lcmpW (p2.toInt64) q1) (0 : Int32)) (0 : Int32) (1 : Int32))), .unset] [])) _
    refine XS.lload X10.here hx rfl (hb hby at_81) rfl ?_
    show Steps p.tables e below (T10.setTop (mkF m 83 #[.val (.long q1), .second, .val (.int p2), .val (.int p3), .val (.ref b4), .val (.int (own_sel (if_icmp.holds .lt (lcmpW (0 : Int64) q1) (0 : Int32)) (0 : Int32) (1 : Int32))), .val (.int (own_sel (if_icmp.holds .lt (lcmpW ((0 : Int64) + p2.toInt64) q1) (0 : Int32)) (0 : Int32) (1 : Int32))), .val (.int (own_sel (if_icmp.holds .lt (lcmpW (((0 : Int64) + p2.toInt64) + p3.toInt64) q1) (0 : Int32)) (0 : Int32) (1 : Int32))), .val (.long (p2.toInt64)), .second, .val (.long ((p2.toInt64) + (p3.toInt64))), .second, .val (.int (own_sel (if_icmp.holds .lt (lcmpW (0 : Int64) q1) (0 : Int32)) (0 : Int32) (1 : Int32))), .val (.int (own_sel (if_icmp.holds .lt (lcmpW (p2.toInt64) q1) (0 : Int32)) (0 : Int32) (1 : Int32))), .unset] [(.long ((p2.toInt64) + (p3.toInt64)))])) _
    refine XS.lloadN X10.here hx rfl (hb hby at_83) rfl ?_
    show Steps p.tables e below (T10.setTop (mkF m 84 #[.val (.long q1), .second, .val (.int p2), .val (.int p3), .val (.ref b4), .val (.int (own_sel (if_icmp.holds .lt (lcmpW (0 : Int64) q1) (0 : Int32)) (0 : Int32) (1 : Int32))), .val (.int (own_sel (if_icmp.holds .lt (lcmpW ((0 : Int64) + p2.toInt64) q1) (0 : Int32)) (0 : Int32) (1 : Int32))), .val (.int (own_sel (if_icmp.holds .lt (lcmpW (((0 : Int64) + p2.toInt64) + p3.toInt64) q1) (0 : Int32)) (0 : Int32) (1 : Int32))), .val (.long (p2.toInt64)), .second, .val (.long ((p2.toInt64) + (p3.toInt64))), .second, .val (.int (own_sel (if_icmp.holds .lt (lcmpW (0 : Int64) q1) (0 : Int32)) (0 : Int32) (1 : Int32))), .val (.int (own_sel (if_icmp.holds .lt (lcmpW (p2.toInt64) q1) (0 : Int32)) (0 : Int32) (1 : Int32))), .unset] [(.long q1), (.long ((p2.toInt64) + (p3.toInt64)))])) _
    refine XS.lcmp X10.here hx rfl (hb hby at_84) rfl ?_
    show Steps p.tables e below (T10.setTop (mkF m 85 #[.val (.long q1), .second, .val (.int p2), .val (.int p3), .val (.ref b4), .val (.int (own_sel (if_icmp.holds .lt (lcmpW (0 : Int64) q1) (0 : Int32)) (0 : Int32) (1 : Int32))), .val (.int (own_sel (if_icmp.holds .lt (lcmpW ((0 : Int64) + p2.toInt64) q1) (0 : Int32)) (0 : Int32) (1 : Int32))), .val (.int (own_sel (if_icmp.holds .lt (lcmpW (((0 : Int64) + p2.toInt64) + p3.toInt64) q1) (0 : Int32)) (0 : Int32) (1 : Int32))), .val (.long (p2.toInt64)), .second, .val (.long ((p2.toInt64) + (p3.toInt64))), .second, .val (.int (own_sel (if_icmp.holds .lt (lcmpW (0 : Int64) q1) (0 : Int32)) (0 : Int32) (1 : Int32))), .val (.int (own_sel (if_icmp.holds .lt (lcmpW (p2.toInt64) q1) (0 : Int32)) (0 : Int32) (1 : Int32))), .unset] [(.int (lcmpW ((p2.toInt64) + (p3.toInt64)) q1))])) _
    refine own_bif X10.here hx rfl (pc0 := 85) rfl (hb hby at_85) (hb hby at_88) (hb hby at_89) (hb hby at_92) rfl ?_
    show Steps p.tables e below (T10.setTop (mkF m 93 #[.val (.long q1), .second, .val (.int p2), .val (.int p3), .val (.ref b4), .val (.int (own_sel (if_icmp.holds .lt (lcmpW (0 : Int64) q1) (0 : Int32)) (0 : Int32) (1 : Int32))), .val (.int (own_sel (if_icmp.holds .lt (lcmpW ((0 : Int64) + p2.toInt64) q1) (0 : Int32)) (0 : Int32) (1 : Int32))), .val (.int (own_sel (if_icmp.holds .lt (lcmpW (((0 : Int64) + p2.toInt64) + p3.toInt64) q1) (0 : Int32)) (0 : Int32) (1 : Int32))), .val (.long (p2.toInt64)), .second, .val (.long ((p2.toInt64) + (p3.toInt64))), .second, .val (.int (own_sel (if_icmp.holds .lt (lcmpW (0 : Int64) q1) (0 : Int32)) (0 : Int32) (1 : Int32))), .val (.int (own_sel (if_icmp.holds .lt (lcmpW (p2.toInt64) q1) (0 : Int32)) (0 : Int32) (1 : Int32))), .unset] [(.int (own_sel (if_icmp.holds .lt (lcmpW ((p2.toInt64) + (p3.toInt64)) q1) (0 : Int32)) (0 : Int32) (1 : Int32)))])) _
    refine XS.istore X10.here hx rfl (hb hby at_93) rfl (l' := #[.val (.long q1), .second, .val (.int p2), .val (.int p3), .val (.ref b4), .val (.int (own_sel (if_icmp.holds .lt (lcmpW (0 : Int64) q1) (0 : Int32)) (0 : Int32) (1 : Int32))), .val (.int (own_sel (if_icmp.holds .lt (lcmpW ((0 : Int64) + p2.toInt64) q1) (0 : Int32)) (0 : Int32) (1 : Int32))), .val (.int (own_sel (if_icmp.holds .lt (lcmpW (((0 : Int64) + p2.toInt64) + p3.toInt64) q1) (0 : Int32)) (0 : Int32) (1 : Int32))), .val (.long (p2.toInt64)), .second, .val (.long ((p2.toInt64) + (p3.toInt64))), .second, .val (.int (own_sel (if_icmp.holds .lt (lcmpW (0 : Int64) q1) (0 : Int32)) (0 : Int32) (1 : Int32))), .val (.int (own_sel (if_icmp.holds .lt (lcmpW (p2.toInt64) q1) (0 : Int32)) (0 : Int32) (1 : Int32))), .val (.int (own_sel (if_icmp.holds .lt (lcmpW ((p2.toInt64) + (p3.toInt64)) q1) (0 : Int32)) (0 : Int32) (1 : Int32)))]) rfl ?_
    show Steps p.tables e below (T10.setTop (mkF m 95 #[.val (.long q1), .second, .val (.int p2), .val (.int p3), .val (.ref b4), .val (.int (own_sel (if_icmp.holds .lt (lcmpW (0 : Int64) q1) (0 : Int32)) (0 : Int32) (1 : Int32))), .val (.int (own_sel (if_icmp.holds .lt (lcmpW ((0 : Int64) + p2.toInt64) q1) (0 : Int32)) (0 : Int32) (1 : Int32))), .val (.int (own_sel (if_icmp.holds .lt (lcmpW (((0 : Int64) + p2.toInt64) + p3.toInt64) q1) (0 : Int32)) (0 : Int32) (1 : Int32))), .val (.long (p2.toInt64)), .second, .val (.long ((p2.toInt64) + (p3.toInt64))), .second, .val (.int (own_sel (if_icmp.holds .lt (lcmpW (0 : Int64) q1) (0 : Int32)) (0 : Int32) (1 : Int32))), .val (.int (own_sel (if_icmp.holds .lt (lcmpW (p2.toInt64) q1) (0 : Int32)) (0 : Int32) (1 : Int32))), .val (.int (own_sel (if_icmp.holds .lt (lcmpW ((p2.toInt64) + (p3.toInt64)) q1) (0 : Int32)) (0 : Int32) (1 : Int32)))] [])) _
    refine XS.iload X10.here hx rfl (hb hby at_95) rfl ?_
    show Steps p.tables e below (T10.setTop (mkF m 97 #[.val (.long q1), .second, .val (.int p2), .val (.int p3), .val (.ref b4), .val (.int (own_sel (if_icmp.holds .lt (lcmpW (0 : Int64) q1) (0 : Int32)) (0 : Int32) (1 : Int32))), .val (.int (own_sel (if_icmp.holds .lt (lcmpW ((0 : Int64) + p2.toInt64) q1) (0 : Int32)) (0 : Int32) (1 : Int32))), .val (.int (own_sel (if_icmp.holds .lt (lcmpW (((0 : Int64) + p2.toInt64) + p3.toInt64) q1) (0 : Int32)) (0 : Int32) (1 : Int32))), .val (.long (p2.toInt64)), .second, .val (.long ((p2.toInt64) + (p3.toInt64))), .second, .val (.int (own_sel (if_icmp.holds .lt (lcmpW (0 : Int64) q1) (0 : Int32)) (0 : Int32) (1 : Int32))), .val (.int (own_sel (if_icmp.holds .lt (lcmpW (p2.toInt64) q1) (0 : Int32)) (0 : Int32) (1 : Int32))), .val (.int (own_sel (if_icmp.holds .lt (lcmpW ((p2.toInt64) + (p3.toInt64)) q1) (0 : Int32)) (0 : Int32) (1 : Int32)))] [(.int (own_sel (if_icmp.holds .lt (lcmpW (0 : Int64) q1) (0 : Int32)) (0 : Int32) (1 : Int32)))])) _
    refine XS.iload X10.here hx rfl (hb hby at_97) rfl ?_
    show Steps p.tables e below (T10.setTop (mkF m 99 #[.val (.long q1), .second, .val (.int p2), .val (.int p3), .val (.ref b4), .val (.int (own_sel (if_icmp.holds .lt (lcmpW (0 : Int64) q1) (0 : Int32)) (0 : Int32) (1 : Int32))), .val (.int (own_sel (if_icmp.holds .lt (lcmpW ((0 : Int64) + p2.toInt64) q1) (0 : Int32)) (0 : Int32) (1 : Int32))), .val (.int (own_sel (if_icmp.holds .lt (lcmpW (((0 : Int64) + p2.toInt64) + p3.toInt64) q1) (0 : Int32)) (0 : Int32) (1 : Int32))), .val (.long (p2.toInt64)), .second, .val (.long ((p2.toInt64) + (p3.toInt64))), .second, .val (.int (own_sel (if_icmp.holds .lt (lcmpW (0 : Int64) q1) (0 : Int32)) (0 : Int32) (1 : Int32))), .val (.int (own_sel (if_icmp.holds .lt (lcmpW (p2.toInt64) q1) (0 : Int32)) (0 : Int32) (1 : Int32))), .val (.int (own_sel (if_icmp.holds .lt (lcmpW ((p2.toInt64) + (p3.toInt64)) q1) (0 : Int32)) (0 : Int32) (1 : Int32)))] [(.int (own_sel (if_icmp.holds .lt (lcmpW (0 : Int64) q1) (0 : Int32)) (0 : Int32) (1 : Int32))), (.int (own_sel (if_icmp.holds .lt (lcmpW (0 : Int64) q1) (0 : Int32)) (0 : Int32) (1 : Int32)))])) _
    refine XS.icmpNo X10.here hx rfl (hb hby at_99) rfl (teq (by simp only [Int64.zero_add] : (own_sel (if_icmp.holds .lt (lcmpW (0 : Int64) q1) (0 : Int32)) (0 : Int32) (1 : Int32)) = (own_sel (if_icmp.holds .lt (lcmpW (0 : Int64) q1) (0 : Int32)) (0 : Int32) (1 : Int32)))).2 ?_
    show Steps p.tables e below (T10.setTop (mkF m 102 #[.val (.long q1), .second, .val (.int p2), .val (.int p3), .val (.ref b4), .val (.int (own_sel (if_icmp.holds .lt (lcmpW (0 : Int64) q1) (0 : Int32)) (0 : Int32) (1 : Int32))), .val (.int (own_sel (if_icmp.holds .lt (lcmpW ((0 : Int64) + p2.toInt64) q1) (0 : Int32)) (0 : Int32) (1 : Int32))), .val (.int (own_sel (if_icmp.holds .lt (lcmpW (((0 : Int64) + p2.toInt64) + p3.toInt64) q1) (0 : Int32)) (0 : Int32) (1 : Int32))), .val (.long (p2.toInt64)), .second, .val (.long ((p2.toInt64) + (p3.toInt64))), .second, .val (.int (own_sel (if_icmp.holds .lt (lcmpW (0 : Int64) q1) (0 : Int32)) (0 : Int32) (1 : Int32))), .val (.int (own_sel (if_icmp.holds .lt (lcmpW (p2.toInt64) q1) (0 : Int32)) (0 : Int32) (1 : Int32))), .val (.int (own_sel (if_icmp.holds .lt (lcmpW ((p2.toInt64) + (p3.toInt64)) q1) (0 : Int32)) (0 : Int32) (1 : Int32)))] [])) _
    refine XS.iload X10.here hx rfl (hb hby at_102) rfl ?_
    show Steps p.tables e below (T10.setTop (mkF m 104 #[.val (.long q1), .second, .val (.int p2), .val (.int p3), .val (.ref b4), .val (.int (own_sel (if_icmp.holds .lt (lcmpW (0 : Int64) q1) (0 : Int32)) (0 : Int32) (1 : Int32))), .val (.int (own_sel (if_icmp.holds .lt (lcmpW ((0 : Int64) + p2.toInt64) q1) (0 : Int32)) (0 : Int32) (1 : Int32))), .val (.int (own_sel (if_icmp.holds .lt (lcmpW (((0 : Int64) + p2.toInt64) + p3.toInt64) q1) (0 : Int32)) (0 : Int32) (1 : Int32))), .val (.long (p2.toInt64)), .second, .val (.long ((p2.toInt64) + (p3.toInt64))), .second, .val (.int (own_sel (if_icmp.holds .lt (lcmpW (0 : Int64) q1) (0 : Int32)) (0 : Int32) (1 : Int32))), .val (.int (own_sel (if_icmp.holds .lt (lcmpW (p2.toInt64) q1) (0 : Int32)) (0 : Int32) (1 : Int32))), .val (.int (own_sel (if_icmp.holds .lt (lcmpW ((p2.toInt64) + (p3.toInt64)) q1) (0 : Int32)) (0 : Int32) (1 : Int32)))] [(.int (own_sel (if_icmp.holds .lt (lcmpW ((0 : Int64) + p2.toInt64) q1) (0 : Int32)) (0 : Int32) (1 : Int32)))])) _
    refine XS.iload X10.here hx rfl (hb hby at_104) rfl ?_
    show Steps p.tables e below (T10.setTop (mkF m 106 #[.val (.long q1), .second, .val (.int p2), .val (.int p3), .val (.ref b4), .val (.int (own_sel (if_icmp.holds .lt (lcmpW (0 : Int64) q1) (0 : Int32)) (0 : Int32) (1 : Int32))), .val (.int (own_sel (if_icmp.holds .lt (lcmpW ((0 : Int64) + p2.toInt64) q1) (0 : Int32)) (0 : Int32) (1 : Int32))), .val (.int (own_sel (if_icmp.holds .lt (lcmpW (((0 : Int64) + p2.toInt64) + p3.toInt64) q1) (0 : Int32)) (0 : Int32) (1 : Int32))), .val (.long (p2.toInt64)), .second, .val (.long ((p2.toInt64) + (p3.toInt64))), .second, .val (.int (own_sel (if_icmp.holds .lt (lcmpW (0 : Int64) q1) (0 : Int32)) (0 : Int32) (1 : Int32))), .val (.int (own_sel (if_icmp.holds .lt (lcmpW (p2.toInt64) q1) (0 : Int32)) (0 : Int32) (1 : Int32))), .val (.int (own_sel (if_icmp.holds .lt (lcmpW ((p2.toInt64) + (p3.toInt64)) q1) (0 : Int32)) (0 : Int32) (1 : Int32)))] [(.int (own_sel (if_icmp.holds .lt (lcmpW (p2.toInt64) q1) (0 : Int32)) (0 : Int32) (1 : Int32))), (.int (own_sel (if_icmp.holds .lt (lcmpW ((0 : Int64) + p2.toInt64) q1) (0 : Int32)) (0 : Int32) (1 : Int32)))])) _
    refine XS.icmpNo X10.here hx rfl (hb hby at_106) rfl (teq (by simp only [Int64.zero_add] : (own_sel (if_icmp.holds .lt (lcmpW ((0 : Int64) + p2.toInt64) q1) (0 : Int32)) (0 : Int32) (1 : Int32)) = (own_sel (if_icmp.holds .lt (lcmpW (p2.toInt64) q1) (0 : Int32)) (0 : Int32) (1 : Int32)))).2 ?_
    show Steps p.tables e below (T10.setTop (mkF m 109 #[.val (.long q1), .second, .val (.int p2), .val (.int p3), .val (.ref b4), .val (.int (own_sel (if_icmp.holds .lt (lcmpW (0 : Int64) q1) (0 : Int32)) (0 : Int32) (1 : Int32))), .val (.int (own_sel (if_icmp.holds .lt (lcmpW ((0 : Int64) + p2.toInt64) q1) (0 : Int32)) (0 : Int32) (1 : Int32))), .val (.int (own_sel (if_icmp.holds .lt (lcmpW (((0 : Int64) + p2.toInt64) + p3.toInt64) q1) (0 : Int32)) (0 : Int32) (1 : Int32))), .val (.long (p2.toInt64)), .second, .val (.long ((p2.toInt64) + (p3.toInt64))), .second, .val (.int (own_sel (if_icmp.holds .lt (lcmpW (0 : Int64) q1) (0 : Int32)) (0 : Int32) (1 : Int32))), .val (.int (own_sel (if_icmp.holds .lt (lcmpW (p2.toInt64) q1) (0 : Int32)) (0 : Int32) (1 : Int32))), .val (.int (own_sel (if_icmp.holds .lt (lcmpW ((p2.toInt64) + (p3.toInt64)) q1) (0 : Int32)) (0 : Int32) (1 : Int32)))] [])) _
    refine XS.iload X10.here hx rfl (hb hby at_109) rfl ?_
    show Steps p.tables e below (T10.setTop (mkF m 111 #[.val (.long q1), .second, .val (.int p2), .val (.int p3), .val (.ref b4), .val (.int (own_sel (if_icmp.holds .lt (lcmpW (0 : Int64) q1) (0 : Int32)) (0 : Int32) (1 : Int32))), .val (.int (own_sel (if_icmp.holds .lt (lcmpW ((0 : Int64) + p2.toInt64) q1) (0 : Int32)) (0 : Int32) (1 : Int32))), .val (.int (own_sel (if_icmp.holds .lt (lcmpW (((0 : Int64) + p2.toInt64) + p3.toInt64) q1) (0 : Int32)) (0 : Int32) (1 : Int32))), .val (.long (p2.toInt64)), .second, .val (.long ((p2.toInt64) + (p3.toInt64))), .second, .val (.int (own_sel (if_icmp.holds .lt (lcmpW (0 : Int64) q1) (0 : Int32)) (0 : Int32) (1 : Int32))), .val (.int (own_sel (if_icmp.holds .lt (lcmpW (p2.toInt64) q1) (0 : Int32)) (0 : Int32) (1 : Int32))), .val (.int (own_sel (if_icmp.holds .lt (lcmpW ((p2.toInt64) + (p3.toInt64)) q1) (0 : Int32)) (0 : Int32) (1 : Int32)))] [(.int (own_sel (if_icmp.holds .lt (lcmpW (((0 : Int64) + p2.toInt64) + p3.toInt64) q1) (0 : Int32)) (0 : Int32) (1 : Int32)))])) _
    refine XS.iload X10.here hx rfl (hb hby at_111) rfl ?_
    show Steps p.tables e below (T10.setTop (mkF m 113 #[.val (.long q1), .second, .val (.int p2), .val (.int p3), .val (.ref b4), .val (.int (own_sel (if_icmp.holds .lt (lcmpW (0 : Int64) q1) (0 : Int32)) (0 : Int32) (1 : Int32))), .val (.int (own_sel (if_icmp.holds .lt (lcmpW ((0 : Int64) + p2.toInt64) q1) (0 : Int32)) (0 : Int32) (1 : Int32))), .val (.int (own_sel (if_icmp.holds .lt (lcmpW (((0 : Int64) + p2.toInt64) + p3.toInt64) q1) (0 : Int32)) (0 : Int32) (1 : Int32))), .val (.long (p2.toInt64)), .second, .val (.long ((p2.toInt64) + (p3.toInt64))), .second, .val (.int (own_sel (if_icmp.holds .lt (lcmpW (0 : Int64) q1) (0 : Int32)) (0 : Int32) (1 : Int32))), .val (.int (own_sel (if_icmp.holds .lt (lcmpW (p2.toInt64) q1) (0 : Int32)) (0 : Int32) (1 : Int32))), .val (.int (own_sel (if_icmp.holds .lt (lcmpW ((p2.toInt64) + (p3.toInt64)) q1) (0 : Int32)) (0 : Int32) (1 : Int32)))] [(.int (own_sel (if_icmp.holds .lt (lcmpW ((p2.toInt64) + (p3.toInt64)) q1) (0 : Int32)) (0 : Int32) (1 : Int32))), (.int (own_sel (if_icmp.holds .lt (lcmpW (((0 : Int64) + p2.toInt64) + p3.toInt64) q1) (0 : Int32)) (0 : Int32) (1 : Int32)))])) _
    refine XS.icmpNo X10.here hx rfl (hb hby at_113) rfl (teq (by simp only [Int64.zero_add] : (own_sel (if_icmp.holds .lt (lcmpW (((0 : Int64) + p2.toInt64) + p3.toInt64) q1) (0 : Int32)) (0 : Int32) (1 : Int32)) = (own_sel (if_icmp.holds .lt (lcmpW ((p2.toInt64) + (p3.toInt64)) q1) (0 : Int32)) (0 : Int32) (1 : Int32)))).2 ?_
    show Steps p.tables e below (T10.setTop (mkF m 116 #[.val (.long q1), .second, .val (.int p2), .val (.int p3), .val (.ref b4), .val (.int (own_sel (if_icmp.holds .lt (lcmpW (0 : Int64) q1) (0 : Int32)) (0 : Int32) (1 : Int32))), .val (.int (own_sel (if_icmp.holds .lt (lcmpW ((0 : Int64) + p2.toInt64) q1) (0 : Int32)) (0 : Int32) (1 : Int32))), .val (.int (own_sel (if_icmp.holds .lt (lcmpW (((0 : Int64) + p2.toInt64) + p3.toInt64) q1) (0 : Int32)) (0 : Int32) (1 : Int32))), .val (.long (p2.toInt64)), .second, .val (.long ((p2.toInt64) + (p3.toInt64))), .second, .val (.int (own_sel (if_icmp.holds .lt (lcmpW (0 : Int64) q1) (0 : Int32)) (0 : Int32) (1 : Int32))), .val (.int (own_sel (if_icmp.holds .lt (lcmpW (p2.toInt64) q1) (0 : Int32)) (0 : Int32) (1 : Int32))), .val (.int (own_sel (if_icmp.holds .lt (lcmpW ((p2.toInt64) + (p3.toInt64)) q1) (0 : Int32)) (0 : Int32) (1 : Int32)))] [])) _
    refine XS.iconst X10.here hx rfl (hb hby at_116) ?_
    show Steps p.tables e below (T10.setTop (mkF m 117 #[.val (.long q1), .second, .val (.int p2), .val (.int p3), .val (.ref b4), .val (.int (own_sel (if_icmp.holds .lt (lcmpW (0 : Int64) q1) (0 : Int32)) (0 : Int32) (1 : Int32))), .val (.int (own_sel (if_icmp.holds .lt (lcmpW ((0 : Int64) + p2.toInt64) q1) (0 : Int32)) (0 : Int32) (1 : Int32))), .val (.int (own_sel (if_icmp.holds .lt (lcmpW (((0 : Int64) + p2.toInt64) + p3.toInt64) q1) (0 : Int32)) (0 : Int32) (1 : Int32))), .val (.long (p2.toInt64)), .second, .val (.long ((p2.toInt64) + (p3.toInt64))), .second, .val (.int (own_sel (if_icmp.holds .lt (lcmpW (0 : Int64) q1) (0 : Int32)) (0 : Int32) (1 : Int32))), .val (.int (own_sel (if_icmp.holds .lt (lcmpW (p2.toInt64) q1) (0 : Int32)) (0 : Int32) (1 : Int32))), .val (.int (own_sel (if_icmp.holds .lt (lcmpW ((p2.toInt64) + (p3.toInt64)) q1) (0 : Int32)) (0 : Int32) (1 : Int32)))] [(.int (1 : Int32))])) _
    refine XS.goto X10.here hx rfl (pc0 := 117) (pc' := 121) rfl (hb hby at_117) (by decide) (by decide) ?_
    show Steps p.tables e below (T10.setTop (mkF m 121 #[.val (.long q1), .second, .val (.int p2), .val (.int p3), .val (.ref b4), .val (.int (own_sel (if_icmp.holds .lt (lcmpW (0 : Int64) q1) (0 : Int32)) (0 : Int32) (1 : Int32))), .val (.int (own_sel (if_icmp.holds .lt (lcmpW ((0 : Int64) + p2.toInt64) q1) (0 : Int32)) (0 : Int32) (1 : Int32))), .val (.int (own_sel (if_icmp.holds .lt (lcmpW (((0 : Int64) + p2.toInt64) + p3.toInt64) q1) (0 : Int32)) (0 : Int32) (1 : Int32))), .val (.long (p2.toInt64)), .second, .val (.long ((p2.toInt64) + (p3.toInt64))), .second, .val (.int (own_sel (if_icmp.holds .lt (lcmpW (0 : Int64) q1) (0 : Int32)) (0 : Int32) (1 : Int32))), .val (.int (own_sel (if_icmp.holds .lt (lcmpW (p2.toInt64) q1) (0 : Int32)) (0 : Int32) (1 : Int32))), .val (.int (own_sel (if_icmp.holds .lt (lcmpW ((p2.toInt64) + (p3.toInt64)) q1) (0 : Int32)) (0 : Int32) (1 : Int32)))] [(.int (1 : Int32))])) _
    exact retN X10 hx (t := .boolean) Bd.returns (by simp) (hb hby at_121) hr
  · show Q0 Z q1 p2 p3 h0 n0 _ T10.heap _
    exact ⟨rfl, N10⟩

set_option maxRecDepth 65536 in
set_option maxHeartbeats 40000000 in
theorem comes_1 {Post : Tables → Env → Array Value → State → Outcome → State → Prop} (hpost : ∀ tb e args s v u, (limb_1_1.after args s (.returned v) u = true ∧ limb_1_2.after args s (.returned v) u = true ∧ True) → FrameEnd s (.returned v) u (Jvm.fieldLocs frame_1_writes args s ++ Jvm.arrayLocs frame_1_arrays args s ++ Jvm.staticLocs frame_1_statics s) 16 128 → Post tb e args s (.returned v) u) :
    ArmFor flags0 classFile x code maxLocals ret World_1 tables_1 room_1 Calls_1 rest_1 Pre_1 Post := by
  intro l hfl _ _ p e ha hc hk s m args below hf hA hF happ hP
  obtain ⟨hcalls, hrest, hpre⟩ := hP
  obtain ⟨-, -, -, hnamed, -, -, -, hat⟩ := (Spec.applies_iff hf).mp happ
  obtain ⟨hg, hn⟩ := and_e (Cond.before_iff.mp (show (Jvm.Cond.and given_1 narrow_1).before args s = true from hpre))
  obtain ⟨g11, g12⟩ := and_e hg
  obtain ⟨g13, g14⟩ := and_e g12
  obtain ⟨g15, g16⟩ := and_e g14
  obtain ⟨w0, w1, w2, rfl⟩ : ∃ w0 w1 w2 : Value, args = #[w0, w1, w2] := by
    have hs : args.size = 3 := by simpa [Cond.value, given_1] using g11
    obtain ⟨L⟩ := args
    match L, hs with
    | [w0, w1, w2], _ => exact ⟨w0, w1, w2, rfl⟩
  have hw := fun d (hd : d ∈ tables_1) => atoms_spec (ws := Jvm.Cond.code x code maxLocals ret :: tables_1) hat d (List.mem_cons_of_mem _ hd)
  have hfit : Fit s := fun {y c} hc i hi => by
    obtain ⟨ha, rfl⟩ := Array.getElem?_eq_some_iff.mp hc
    have q := List.all_eq_true.mp ((Array.all_eq_true_iff_forall_mem.mp hF) _ (Array.getElem_mem ha)) i (List.mem_range.mpr hi)
    simpa [Array.getElem?_eq_getElem hi] using q
  obtain ⟨i0, ei0⟩ := isL_v g13
  obtain rfl : w0 = (.long i0) := Option.some.inj ei0
  obtain ⟨i1, ei1⟩ := is_v g15
  obtain rfl : w1 = (.int i1) := Option.some.inj ei1
  obtain ⟨i2, ei2⟩ := is_v g16
  obtain rfl : w2 = (.int i2) := Option.some.inj ei2
  obtain ⟨n, o, h1, h2, h3, _, L, rfl, ⟨rfl, N⟩, hq⟩ := rm0 l s _ hw tables_1 i0 i1 i2 s.heap s.heap.size (Nat.le_refl _) p e ha hc hk s m _ below hf ((Spec.applies_iff_loose hf).mp happ).1 ⟨rfl, State.Warmed39.refl s, rfl⟩ trivial
  refine ⟨n, _, h1, h2, h3, hpost _ _ _ _ _ _ ⟨Cond.after_iff.mpr rfl, Cond.after_iff.mpr (eq_i res_at (Term.int_eval (1)) rfl), trivial⟩ ⟨hq.1, hq.2.1, (hq.2.2.sift fun y hy => Or.inr (N y hy)).mono (by decide) (by decide)⟩⟩
theorem main_1_1 : Claimed_1_1 := comes_1 fun _ _ _ _ _ _ h hF => ⟨h.1, hF⟩
theorem main_1_2 : Claimed_1_2 := comes_1 fun _ _ _ _ _ _ h hF => ⟨h.2.1, hF⟩
end Jvm.Pilot.@@N@@
namespace Jvm.Pilot.@@N@@
open Jvm Jvm.ClassFile Sem Op Lib Jvm.Free Jvm.Stand Jvm.Pilot.@@N@@.Jvm.D
/-! MADE BY PROGRAM (witnessworld.py) out of the Statement's table words and the real class files: 9 classes; the members and pool entries that the words name. The judged class is class 1, her method 1. -/
namespace start1
open Jvm.ClassFile
def u (s : String) : CpInfo := .utf8 (stringToUtf16 s)
/-- a pool by its gaps: so many unusable entries, then the entry; so many at the end -/
def gap : Nat → List CpInfo → List CpInfo
  | 0, r => r
  | n + 1, r => .unusable :: gap n r
def poolList (es : List (Nat × CpInfo)) (last : Nat) : List CpInfo := es.foldr (fun e r => gap e.1 (e.2 :: r)) (gap last [])
def pool (es : List (Nat × CpInfo)) (last : Nat) : Array CpInfo := ⟨poolList es last⟩
def fileOf (pool : Array CpInfo) (this : Nat) (attrs : Array Attribute := #[]) (ms : Array MethodInfo := #[]) (fl : Nat := 33) (sup : Nat := 0) (ifs : Array Nat := #[]) (fds : Array FieldInfo := #[]) : ClassFile where
  minorVersion := 0
  majorVersion := 65
  constantPool := pool
  accessFlags := fl
  thisClass := this
  superClass := sup
  interfaces := ifs
  fields := fds
  methods := ms
  attributes := attrs
def plain (name : String) (sup : Option ClassId) : Class where
  name := name
  kind := .ordinary
  loader := none
  accessFlags := 33
  super := sup
  interfaces := #[]
  cf := none
  fields := #[]
  methods := #[]
  instanceTypes := #[]
  staticTypes := #[]
  resolved := #[]
  callSites := []
  init := .initialized
  statics := none
  mirror := none

def pool0 : Array CpInfo := pool [(5, u "<init>"), (0, u "()V"), (1, .class_ 10), (1, u "java/lang/Object")] 113

def k0c0 : Code := { maxStack := 0, maxLocals := 1, code := object_method_1_code, exceptionTable := #[], attributes := #[] }
def k0m0 : Method := { name := "<init>", desc := "()V", sig := { parameters := [], returnType := none }, accessFlags := 1, code := some k0c0 }
/-- java/lang/Object -/
def k0 : Class := { plain "java/lang/Object" none with
  accessFlags := 33
  interfaces := #[]
  cf := some (fileOf pool0 8 #[] #[{ accessFlags := 1, nameIndex := 5, descriptorIndex := 6, attributes := #[] }] 33 0 #[] #[])
  fields := #[]
  methods := #[k0m0]
  instanceTypes := #[]
  staticTypes := #[]
  resolved := Array.replicate 124 none
  statics := none }

def pool1 : Array CpInfo := pool [(2, .class_ 4), (1, u "java/lang/Object"), (0, u "<init>"), (0, u "()V"), (0, .class_ 8), (0, u "com/example/stagewise/stagewise/EarlyGroup"), (0, .methodref 7 10), (0, .nameAndType 5 11), (0, u "(J)V"), (0, .methodref 7 13), (0, .nameAndType 14 15), (0, u "isFull"), (0, u "()Z"), (0, .methodref 7 17), (0, .nameAndType 18 19), (0, u "count"), (0, u "(I)V"), (0, .class_ 21), (0, u "com/example/stagewise/stagewise/EarlyGroupIsFullPinLaw"), (2, u "law"), (0, u "(JII)Z")] 3

def k1m0 : Method := { name := "<init>", desc := "()V", sig := { parameters := [], returnType := none }, accessFlags := 1, code := none }
def k1c1 : Code := { maxStack := 4, maxLocals := 15, code := code, exceptionTable := #[], attributes := #[] }
def k1m1 : Method := { name := "law", desc := "(JII)Z", sig := { parameters := [.long, .int, .int], returnType := some .boolean }, accessFlags := 9, code := some k1c1 }
/-- com/example/stagewise/stagewise/EarlyGroupIsFullPinLaw -/
def k1 : Class := { plain "com/example/stagewise/stagewise/EarlyGroupIsFullPinLaw" (some 0) with
  accessFlags := 49
  interfaces := #[]
  cf := some (fileOf pool1 20 #[] #[{ accessFlags := 1, nameIndex := 5, descriptorIndex := 6, attributes := #[] }, { accessFlags := 9, nameIndex := 24, descriptorIndex := 25, attributes := #[] }] 49 2 #[] #[])
  fields := #[]
  methods := #[k1m0, k1m1]
  instanceTypes := #[]
  staticTypes := #[]
  resolved := Array.replicate 29 none
  statics := none }

def pool2 : Array CpInfo := pool [(1, .methodref 2 3), (0, .class_ 4), (0, .nameAndType 5 6), (0, u "java/lang/Object"), (0, u "<init>"), (0, u "()V"), (0, .fieldref 8 9), (0, .class_ 10), (0, .nameAndType 11 12), (0, u "com/example/stagewise/stagewise/EarlyGroup"), (0, u "m_nLimit"), (0, u "J"), (0, .fieldref 8 14), (0, .nameAndType 15 12), (0, u "m_nHeld"), (0, u "(J)V"), (2, u "isFull"), (0, u "()Z"), (1, u "count"), (0, u "(I)V")] 2

def k2c0 : Code := { maxStack := 3, maxLocals := 3, code := prog_33_method_1_code, exceptionTable := #[], attributes := #[] }
def k2m0 : Method := { name := "<init>", desc := "(J)V", sig := { parameters := [.long], returnType := none }, accessFlags := 0, code := some k2c0 }
def k2c1 : Code := { maxStack := 4, maxLocals := 1, code := prog_33_method_2_code, exceptionTable := #[], attributes := #[] }
def k2m1 : Method := { name := "isFull", desc := "()Z", sig := { parameters := [], returnType := some .boolean }, accessFlags := 0, code := some k2c1 }
def k2c2 : Code := { maxStack := 5, maxLocals := 2, code := prog_33_method_3_code, exceptionTable := #[], attributes := #[] }
def k2m2 : Method := { name := "count", desc := "(I)V", sig := { parameters := [.int], returnType := none }, accessFlags := 0, code := some k2c2 }
/-- com/example/stagewise/stagewise/EarlyGroup -/
def k2 : Class := { plain "com/example/stagewise/stagewise/EarlyGroup" (some 0) with
  accessFlags := 48
  interfaces := #[]
  cf := some (fileOf pool2 8 #[] #[{ accessFlags := 0, nameIndex := 5, descriptorIndex := 16, attributes := #[] }, { accessFlags := 0, nameIndex := 19, descriptorIndex := 20, attributes := #[] }, { accessFlags := 0, nameIndex := 22, descriptorIndex := 23, attributes := #[] }] 48 2 #[] #[{ accessFlags := 18, nameIndex := 11, descriptorIndex := 12, attributes := #[] }, { accessFlags := 2, nameIndex := 15, descriptorIndex := 12, attributes := #[] }])
  fields := #[{ name := "m_nLimit", type := .long, accessFlags := 18, slot := 0, constantValue := 0 }, { name := "m_nHeld", type := .long, accessFlags := 2, slot := 1, constantValue := 0 }]
  methods := #[k2m0, k2m1, k2m2]
  instanceTypes := #[.long, .long]
  staticTypes := #[]
  resolved := Array.replicate 26 none
  statics := none }

def pool3 : Array CpInfo := pool [(1, u "java/lang/Cloneable"), (0, .class_ 1), (0, u "java/lang/Object"), (0, .class_ 3)] 3

/-- java/lang/Cloneable -/
def k3 : Class := { plain "java/lang/Cloneable" (some 0) with
  accessFlags := 1537
  interfaces := #[]
  cf := some (fileOf pool3 2 #[] #[] 1537 4 #[] #[])
  fields := #[]
  methods := #[]
  instanceTypes := #[]
  staticTypes := #[]
  resolved := Array.replicate 8 none
  statics := none }

def pool4 : Array CpInfo := pool [(1, u "java/io/Serializable"), (0, .class_ 1), (0, u "java/lang/Object"), (0, .class_ 3)] 3

/-- java/io/Serializable -/
def k4 : Class := { plain "java/io/Serializable" (some 0) with
  accessFlags := 1537
  interfaces := #[]
  cf := some (fileOf pool4 2 #[] #[] 1537 4 #[] #[])
  fields := #[]
  methods := #[]
  instanceTypes := #[]
  staticTypes := #[]
  resolved := Array.replicate 8 none
  statics := none }

/-- the primitive byte -/
def k5 : Class := { plain "byte" none with kind := .primitive 'B', accessFlags := 0x411 }
/-- [B -/
def k6 : Class := { plain "[B" (some 0) with kind := .array 5 .byte, interfaces := #[3, 4], accessFlags := 1041 }

/-- the primitive int -/
def k7 : Class := { plain "int" none with kind := .primitive 'I', accessFlags := 0x411 }
/-- [I -/
def k8 : Class := { plain "[I" (some 0) with kind := .array 7 .int, interfaces := #[3, 4], accessFlags := 1041 }

def heap : Heap := #[]
def classes : Array Class := #[k0, k1, k2, k3, k4, k5, k6, k7, k8]
def interned : List (Array UInt16 × Addr) := []
def slotsUsed : Nat := 0
def theMethod : MethodId := ⟨1, 1⟩
def args0 : Array Value := #[.long 5, .int 3, .int 4]
def aboutOver (below : List Frame) : State where
  vm := { classes := classes, interned := interned.toArray }
  heap := heap
  slotsUsed := slotsUsed
  threads := #[{ frames := .invoking theMethod args0 :: below }]
def below0 : List Frame := [.native { method := ⟨0, 0⟩, args := #[] }]
def about1 : State := aboutOver below0
def p0 : Program := .bare "" "" ""
def e0 : Env := launch0.env 0 0 0
theorem w_frames : about1.frames = Frame.invoking theMethod args0 :: below0 := rfl
set_option maxRecDepth 65536 in
theorem w_args : argsFit about1.vm theMethod args0 = true := by decide +kernel
set_option maxRecDepth 65536 in
theorem w_heap : heapFits about1 = true := by decide +kernel
set_option maxRecDepth 65536 in
theorem w_runnable : about1.curStatus? = some .runnable := by decide +kernel
set_option maxRecDepth 65536 in
theorem w_alone : about1.alone = true := by decide +kernel
set_option maxRecDepth 65536 in
theorem w_named : about1.methodNamed? x = some theMethod := by decide +kernel
set_option maxRecDepth 65536 in
theorem w_hears : about1.hears theMethod below0 = true := by decide +kernel
set_option maxRecDepth 65536 in
theorem w_ripe : about1.ripe theMethod args0 below0 = true := by decide +kernel
theorem w_running : about1.status = .running := rfl
set_option maxRecDepth 65536 in
theorem w_room : about1.hasRoom e0.platform room_1 = true :=
  launch0.hasRoom_least _ room_1 (by decide +kernel) (by decide +kernel) (by decide +kernel) (by decide +kernel) (by decide +kernel) (by decide +kernel)
theorem allAtoms_all (ts : List Jvm.Cond) (a : Array Jvm.Value) (st : Jvm.State) : (allAtoms ts).before a st = ts.all (fun c => c.before a st) := by
  induction ts with
  | nil => rfl
  | cons c t ih =>
    show (Jvm.Cond.and c (allAtoms t)).before a st = _
    rw [Jvm.Cond.before_and, ih, List.all_cons]
def words1 : List Jvm.Cond := Jvm.Cond.code x code maxLocals ret :: tables_1
/-- a 'code' word, met by the world's own term for the bytes: nothing is compared byte by byte -/
theorem code_word {y : MethodName} {bytes : ByteArray} {mx : Nat} {rt : Option FieldType} {a : Array Value} {s : State} {m : MethodId} {meth : Method} {c : Code} (h1 : s.methodNamed? y = some m) (h2 : s.vm.method? m = some meth) (h3 : meth.code = some c) (h4 : c.code = bytes)
    (h5 : (c.maxLocals == mx && c.exceptionTable.isEmpty && decide (c.maxStack ≤ mostOperands) && decide (meth.sig.returnType = rt) && !meth.locks && decide (parseMethodDescriptor y.desc = some meth.sig)) = true) : (Jvm.Cond.code y bytes mx rt).before a s = true := by
  simp only [Bool.and_eq_true, beq_iff_eq, Bool.not_eq_true', decide_eq_true_eq] at h5
  obtain ⟨⟨⟨⟨⟨g1, g2⟩, g3⟩, g4⟩, g5⟩, g6⟩ := h5
  simp [Cond.before, Cond.holds, Cond.value, h1, h2, h3, h4, g1, g2, g3, g4, g5, g6]
def isCode : Jvm.Cond → Bool
  | .code _ _ _ _ => true
  | _ => false
theorem all_split {L : List Jvm.Cond} {P : Jvm.Cond → Bool} (h1 : L.all (fun c => isCode c || P c) = true) (h2 : ∀ c ∈ L.filter isCode, P c = true) : L.all P = true := by
  refine List.all_eq_true.mpr fun c hc => ?_
  have h := List.all_eq_true.mp h1 c hc
  rcases Bool.eq_false_or_eq_true (isCode c) with hi | hi
  · exact h2 c (List.mem_filter.mpr ⟨hc, hi⟩)
  · simpa [hi] using h
set_option maxRecDepth 65536 in
theorem w_c0 : (Jvm.Cond.code x code maxLocals ret).before args0 about1 = true := code_word (m := ⟨1, 1⟩) (meth := k1m1) (c := k1c1) (by decide +kernel) rfl rfl rfl (by decide +kernel)
set_option maxRecDepth 65536 in
theorem w_c1 : (Jvm.Cond.code ({ cls := "com/example/stagewise/stagewise/EarlyGroup", name := "<init>", desc := "(J)V" } : Jvm.MethodName) prog_33_method_1_code (3 : Nat) (Option.none : Option Jvm.ClassFile.FieldType)).before args0 about1 = true := code_word (m := ⟨2, 0⟩) (meth := k2m0) (c := k2c0) (by decide +kernel) rfl rfl rfl (by decide +kernel)
set_option maxRecDepth 65536 in
theorem w_c2 : (Jvm.Cond.code ({ cls := "java/lang/Object", name := "<init>", desc := "()V" } : Jvm.MethodName) object_method_1_code (1 : Nat) (Option.none : Option Jvm.ClassFile.FieldType)).before args0 about1 = true := code_word (m := ⟨0, 0⟩) (meth := k0m0) (c := k0c0) (by decide +kernel) rfl rfl rfl (by decide +kernel)
set_option maxRecDepth 65536 in
theorem w_c3 : (Jvm.Cond.code ({ cls := "com/example/stagewise/stagewise/EarlyGroup", name := "isFull", desc := "()Z" } : Jvm.MethodName) prog_33_method_2_code (1 : Nat) (Option.some Jvm.ClassFile.FieldType.boolean)).before args0 about1 = true := code_word (m := ⟨2, 1⟩) (meth := k2m1) (c := k2c1) (by decide +kernel) rfl rfl rfl (by decide +kernel)
set_option maxRecDepth 65536 in
theorem w_c4 : (Jvm.Cond.code ({ cls := "com/example/stagewise/stagewise/EarlyGroup", name := "count", desc := "(I)V" } : Jvm.MethodName) prog_33_method_3_code (2 : Nat) (Option.none : Option Jvm.ClassFile.FieldType)).before args0 about1 = true := code_word (m := ⟨2, 2⟩) (meth := k2m2) (c := k2c2) (by decide +kernel) rfl rfl rfl (by decide +kernel)
def codes1 : List Jvm.Cond := [Jvm.Cond.code x code maxLocals ret, Jvm.Cond.code ({ cls := "com/example/stagewise/stagewise/EarlyGroup", name := "<init>", desc := "(J)V" } : Jvm.MethodName) prog_33_method_1_code (3 : Nat) (Option.none : Option Jvm.ClassFile.FieldType), Jvm.Cond.code ({ cls := "java/lang/Object", name := "<init>", desc := "()V" } : Jvm.MethodName) object_method_1_code (1 : Nat) (Option.none : Option Jvm.ClassFile.FieldType), Jvm.Cond.code ({ cls := "com/example/stagewise/stagewise/EarlyGroup", name := "isFull", desc := "()Z" } : Jvm.MethodName) prog_33_method_2_code (1 : Nat) (Option.some Jvm.ClassFile.FieldType.boolean), Jvm.Cond.code ({ cls := "com/example/stagewise/stagewise/EarlyGroup", name := "count", desc := "(I)V" } : Jvm.MethodName) prog_33_method_3_code (2 : Nat) (Option.none : Option Jvm.ClassFile.FieldType)]
set_option maxRecDepth 65536 in
theorem codes_eq : words1.filter isCode = codes1 := rfl
theorem w_codes : ∀ c ∈ words1.filter isCode, c.before args0 about1 = true := by
  rw [codes_eq]
  intro c hc
  simp only [codes1, List.mem_cons, List.not_mem_nil, or_false] at hc
  rcases hc with rfl | rfl | rfl | rfl | rfl
  · exact w_c0
  · exact w_c1
  · exact w_c2
  · exact w_c3
  · exact w_c4
set_option maxRecDepth 65536 in
theorem w_t1 : words1.all (fun c => isCode c || c.before args0 about1) = true := by decide +kernel
theorem w_tables : (allAtoms (Jvm.Cond.code x code maxLocals ret :: tables_1)).before args0 about1 = true := by
  rw [allAtoms_all]
  show words1.all (fun c => c.before args0 about1) = true
  refine all_split ?_ w_codes
  rw [w_t1]
set_option maxRecDepth 65536 in
theorem w_case : (Jvm.Cond.and given_1 narrow_1).before args0 about1 = true := by decide +kernel
theorem w_applies : (headSpec (Jvm.Cond.code x code maxLocals ret :: tables_1) room_1).applies x e0.platform about1 = true :=
  (Spec.applies_iff w_frames).mpr ⟨w_running, w_runnable, w_alone, w_named, w_hears, w_ripe, w_room, w_tables⟩
theorem atStart : AtStart classFile x code maxLocals ret World_1 tables_1 room_1 Calls_1 rest_1 Pre_1 launch0 p0 e0 about1 theMethod args0 below0 :=
  ⟨lists_1, trivial, launch0.admits_env _ _ _, launch0.least_env, fairChoices_fair.cas, fairChoices_fair.clock, w_frames, w_args, w_heap, w_applies, trivial, trivial, w_case⟩
end start1
theorem witness_1 : WitnessClaimed_1 := ⟨start1.p0, start1.e0, start1.about1, start1.theMethod, start1.args0, start1.below0, start1.atStart⟩
end Jvm.Pilot.@@N@@
