import JvmDerived
import JvmDerived.Pilot.@@N@@Statement
import JvmDerived.Pilot.@@N@@Code
set_option linter.unusedVariables false
set_option linter.unusedSimpArgs false
namespace Jvm.RoadKit
open Sem ClassFile Op Lib Jvm.Stand Jvm.Free Jvm.LawKit
section New
variable {p : Program} {l : Launch} {e : Env} {R : Room} {s : State} {m : MethodId} {args : Array Value} {below : List Frame} {meth : Method} {c : Code} {T : State} {locs : List Loc} {cells slots : Nat}
theorem retI (X : Stand p l e R s m args below meth c T locs cells slots) (hx : p.tables.exec = Jvm.exec) {pc : Nat} {Ls : Array Slot} {z : Int32} {rest : List Value} (hret : meth.sig.returnType = some .int) (hd : decode c.code pc = .ok (.ireturn, 1)) {fs : List Frame}
    (hl : ∀ (f : JFrame) (acts : List Action), f.method = m → f.locked = none → f.entered = [] → (doReturn e (T.setTop f) acts (some (.int z))).1 = T.setFrames fs) : Steps p.tables e below (T.setTop (mkF m pc Ls (.int z :: rest))) (T.setFrames fs) := by
  have hm' : T.vm.method? m = some meth := X.method'
  have hn : narrow .int (.int z) = .int z := rfl
  show Steps p.tables e below (T.setTop { method := m, pc := pc, locals := Ls, stack := _ :: rest, locked := none }) _
  jvm_step X.here [X.here.top, hx, hd, hm', hret, hn]
  first | (intro acts; rw [hl _ acts rfl rfl rfl]) | rw [hl _ _ rfl rfl rfl]
  exact Steps.refl _
theorem own_lremM {g : JFrame} {target : State} (X : Stand p l e R s m args below meth c T locs cells slots) (hx : p.tables.exec = Jvm.exec) (hg : g.method = m) {x y : Int64} {rest : List Value} (hd : decode c.code g.pc = .ok (.lrem, 1)) (hs : g.stack = .long y :: .long x :: rest) (hy : y ≠ 0)
    (hr : Steps p.tables e below (T.setTop { g with pc := g.pc + 1, stack := .long (x % y) :: rest }) target) : Steps p.tables e below (T.setTop g) target := by
  have q : x - x / y * y = x % y := lrem_mod x y
  exact XS.lrem X.here hx hg hd hs hy (by rw [q]; exact hr)
end New
end Jvm.RoadKit
namespace Jvm.Pilot.@@N@@
open Jvm Jvm.ClassFile Sem Op Lib Jvm.Free Jvm.Stand Jvm.LawKit Jvm.RoadKit Bundle Jvm.Pilot.@@N@@.Jvm.D

theorem own_nar {r : Int32} (h : r = 0 ∨ r = 1) : nar .boolean r = r := by rcases h with rfl | rfl <;> rfl
theorem pd_1 : parseMethodDescriptor "()V" = some ⟨[], none⟩ := by decide +kernel
theorem pd_2 : parseMethodDescriptor "(JJ)J" = some ⟨[.long, .long], some .long⟩ := by decide +kernel
theorem pd_3 : parseMethodDescriptor "(J)V" = some ⟨[.long], none⟩ := by decide +kernel
theorem pd_4 : parseMethodDescriptor "(Lcom/example/bidwell/bidwell/market/Price;)Z" = some ⟨[(.object "com/example/bidwell/bidwell/market/Price")], some .boolean⟩ := by decide +kernel
theorem own_step (sd : Int64) (mode : Int32) (st : Int64) (hst : st = (if (mode &&& (1 : Int32)) = (0 : Int32) then ((1 : Int64) + ((sd &&& (9223372036854775807 : Int64)) % (999999999999 : Int64))) else ((1 : Int64) + (sd &&& (4095 : Int64))))) : 1 ≤ st.toInt ∧ st.toInt ≤ 999999999999 ∧ st ≠ 0 := by
  have a1 : (sd &&& (9223372036854775807 : Int64)).toInt = sd.toInt % (2 ^ 63 : Nat) := c_maskL sd _ 63 (by decide) (by decide)
  have a2 : ((sd &&& (9223372036854775807 : Int64)) % (999999999999 : Int64)).toInt = (sd &&& (9223372036854775807 : Int64)).toInt % 999999999999 := by
    rw [Int64.toInt_mod]; exact (tr _ _).1 (by rw [a1]; omega)
  have a3 : (sd &&& (4095 : Int64)).toInt = sd.toInt % (2 ^ 12 : Nat) := c_maskL sd _ 12 (by decide) (by decide)
  have z1 : (1 : Int64).toInt = 1 := by decide
  have z0 : (0 : Int64).toInt = 0 := by decide
  have b1 := c_ladd 1 ((sd &&& (9223372036854775807 : Int64)) % (999999999999 : Int64))
  have b2 := c_ladd 1 (sd &&& (4095 : Int64))
  have b3 := rng64 ((1 : Int64) + ((sd &&& (9223372036854775807 : Int64)) % (999999999999 : Int64)))
  have b4 := rng64 ((1 : Int64) + (sd &&& (4095 : Int64)))
  rw [z1] at b1 b2
  have h : 1 ≤ st.toInt ∧ st.toInt ≤ 999999999999 := by rw [hst]; split <;> omega
  exact ⟨h.1, h.2, fun q => by rw [q, z0] at h; omega⟩
theorem own_mq (st mq : Int64) (h1 : 1 ≤ st.toInt) (h2 : st.toInt ≤ 999999999999) (hmq : mq = ((999999999999 : Int64) / st)) : mq.toInt = 999999999999 / st.toInt ∧ (mq + (1 : Int64)) ≠ 0 := by
  have zm : (-1 : Int64).toInt = -1 := by decide
  have a1 := (c_ldiv 999999999999 st st.toInt rfl (fun q => by rw [q, zm] at h1; omega)).1 (by decide)
  have z3 : (999999999999 : Int64).toInt = 999999999999 := by decide
  rw [z3, ← hmq] at a1
  refine ⟨a1, fun q => ?_⟩
  have b1 := c_ladd mq 1
  have z1 : (1 : Int64).toInt = 1 := by decide
  have z0 : (0 : Int64).toInt = 0 := by decide
  rw [q, z1, z0, a1] at b1
  have c1 : 0 ≤ 999999999999 / st.toInt := Int.ediv_nonneg (by decide) (by omega)
  have c2 : 999999999999 / st.toInt ≤ 999999999999 := Int.ediv_le_self _ (by decide)
  omega
theorem own_base (st mq q0 qq ba : Int64) (h1 : 1 ≤ st.toInt) (h2 : st.toInt ≤ 999999999999) (hmq : mq.toInt = 999999999999 / st.toInt) (hqq : qq = ((q0 &&& (9223372036854775807 : Int64)) % (mq + (1 : Int64)))) (hba : ba = (qq * st)) : 0 ≤ ba.toInt ∧ ba.toInt ≤ 999999999999 ∧ ∃ q : Int, ba.toInt = q * st.toInt := by
  have a1 : (q0 &&& (9223372036854775807 : Int64)).toInt = q0.toInt % (2 ^ 63 : Nat) := c_maskL q0 _ 63 (by decide) (by decide)
  have c1 : 0 ≤ 999999999999 / st.toInt := Int.ediv_nonneg (by decide) (by omega)
  have c2 : 999999999999 / st.toInt ≤ 999999999999 := Int.ediv_le_self _ (by decide)
  have z1 : (1 : Int64).toInt = 1 := by decide
  have b1 := c_ladd mq 1
  have b2 := rng64 (mq + 1)
  rw [z1, hmq] at b1
  have b3 : (mq + 1).toInt = 999999999999 / st.toInt + 1 := by omega
  have a2 : qq.toInt = (q0 &&& (9223372036854775807 : Int64)).toInt % (mq + 1).toInt := by
    rw [hqq, Int64.toInt_mod]; exact (Jvm.RoadKit.tr _ _).1 (by rw [a1]; omega)
  have a3 : 0 ≤ qq.toInt := by rw [a2]; exact Int.emod_nonneg _ (by omega)
  have a4 : qq.toInt < 999999999999 / st.toInt + 1 := by rw [a2, b3]; exact Int.emod_lt_of_pos _ (by omega)
  have d1 : qq.toInt * st.toInt ≤ 999999999999 / st.toInt * st.toInt := Int.mul_le_mul_of_nonneg_right (by omega) (by omega)
  have d2 : 999999999999 / st.toInt * st.toInt ≤ 999999999999 := Int.ediv_mul_le _ (by omega)
  have d3 : 0 ≤ qq.toInt * st.toInt := Int.mul_nonneg a3 (by omega)
  have e1 := c_lmul qq st
  have e2 := rng64 ba
  rw [← hba] at e1
  have e3 : ba.toInt = qq.toInt * st.toInt := by omega
  exact ⟨by omega, by omega, _, e3⟩
theorem own_rmax (st ba rx : Int64) (h1 : 1 ≤ st.toInt) (h2 : st.toInt ≤ 999999999999) (hb0 : 0 ≤ ba.toInt) (hb1 : ba.toInt ≤ 999999999999) (hrx : rx = (if ((999999999999 : Int64) - ba) < (st - (1 : Int64)) then ((999999999999 : Int64) - ba) else (st - (1 : Int64)))) : 0 ≤ rx.toInt ∧ rx.toInt ≤ st.toInt - 1 ∧ rx.toInt ≤ 999999999999 - ba.toInt ∧ (rx + (1 : Int64)) ≠ 0 := by
  have z1 : (1 : Int64).toInt = 1 := by decide
  have z0 : (0 : Int64).toInt = 0 := by decide
  have z3 : (999999999999 : Int64).toInt = 999999999999 := by decide
  have b1 := c_lsub st 1
  have b2 := c_lsub 999999999999 ba
  have b3 := rng64 (st - 1)
  have b4 := rng64 (999999999999 - ba)
  rw [z1] at b1
  rw [z3] at b2
  have c1 : (st - 1).toInt = st.toInt - 1 := by omega
  have c2 : (999999999999 - ba).toInt = 999999999999 - ba.toInt := by omega
  have h : 0 ≤ rx.toInt ∧ rx.toInt ≤ st.toInt - 1 ∧ rx.toInt ≤ 999999999999 - ba.toInt := by
    rw [hrx]; split
    · rename_i q; rw [Int64.lt_iff_toInt_lt] at q; omega
    · rename_i q; rw [Int64.lt_iff_toInt_lt] at q; omega
  refine ⟨h.1, h.2.1, h.2.2, fun q => ?_⟩
  have d1 := c_ladd rx 1
  rw [q, z1, z0] at d1
  omega
theorem own_units (st ba rx rr ra rb rc un : Int64) (mode : Int32) (h1 : 1 ≤ st.toInt) (h2 : st.toInt ≤ 999999999999) (hb0 : 0 ≤ ba.toInt) (hb1 : ba.toInt ≤ 999999999999) (hb2 : ∃ q : Int, ba.toInt = q * st.toInt) (hx0 : 0 ≤ rx.toInt) (hx1 : rx.toInt ≤ st.toInt - 1) (hx2 : rx.toInt ≤ 999999999999 - ba.toInt)
    (hra : ra = ((rr &&& (9223372036854775807 : Int64)) % (rx + (1 : Int64)))) (hrb : rb = (if (mode &&& (2 : Int32)) = (0 : Int32) then ra else (0 : Int64))) (hrc : rc = (if (mode &&& (4 : Int32)) = (0 : Int32) then rb else rx)) (hun : un = (ba + rc)) :
    ¬ un < (0 : Int64) ∧ ¬ (999999999999 : Int64) < un ∧ ¬ st < (0 : Int64) ∧ ¬ (999999999999 : Int64) < st ∧ ((un % st) = (0 : Int64) ↔ rc = 0) := by
  have z1 : (1 : Int64).toInt = 1 := by decide
  have z0 : (0 : Int64).toInt = 0 := by decide
  have z3 : (999999999999 : Int64).toInt = 999999999999 := by decide
  have a1 : (rr &&& (9223372036854775807 : Int64)).toInt = rr.toInt % (2 ^ 63 : Nat) := c_maskL rr _ 63 (by decide) (by decide)
  have b1 := c_ladd rx 1
  have b2 := rng64 (rx + 1)
  rw [z1] at b1
  have b3 : (rx + 1).toInt = rx.toInt + 1 := by omega
  have a2 : ra.toInt = (rr &&& (9223372036854775807 : Int64)).toInt % (rx.toInt + 1) := by
    rw [hra, Int64.toInt_mod, b3]; exact (Jvm.RoadKit.tr _ _).1 (by rw [a1]; omega)
  have a3 : 0 ≤ ra.toInt := by rw [a2]; exact Int.emod_nonneg _ (by omega)
  have a4 : ra.toInt < rx.toInt + 1 := by rw [a2]; exact Int.emod_lt_of_pos _ (by omega)
  have c1 : 0 ≤ rb.toInt ∧ rb.toInt ≤ rx.toInt := by rw [hrb]; split <;> omega
  have c2 : 0 ≤ rc.toInt ∧ rc.toInt ≤ rx.toInt := by rw [hrc]; split <;> omega
  have d1 := c_ladd ba rc
  have d2 := rng64 un
  rw [← hun] at d1
  have d3 : un.toInt = ba.toInt + rc.toInt := by omega
  obtain ⟨q, hq⟩ := hb2
  have e1 : (un % st).toInt = rc.toInt := by
    rw [Int64.toInt_mod, (Jvm.RoadKit.tr _ _).1 (by omega), d3, hq, Int.add_comm, Int.add_mul_emod_self_right]
    exact Int.emod_eq_of_lt (by omega) (by omega)
  rw [Int64.lt_iff_toInt_lt, Int64.lt_iff_toInt_lt, Int64.lt_iff_toInt_lt, Int64.lt_iff_toInt_lt, ← Int64.toInt_inj, ← Int64.toInt_inj, z0, z3, e1]
  omega
theorem d3_0 : decode jdk_30_method_1_code 0 = .ok (.aload_n 0, 1) := by decide +kernel
theorem d3_1 : decode jdk_30_method_1_code 1 = .ok (.invokespecial 1, 3) := by decide +kernel
theorem d3_4 : decode jdk_30_method_1_code 4 = .ok (.return_, 1) := by decide +kernel
theorem pn_3 : plainName "java/lang/Record" = true := by first | (simp [plainName, overriddenIn]; done) | decide +kernel
theorem ef_3 (m : MethodId) (a1 : Addr) : entryFrame m #[(.ref a1)] 1 = (mkF m 0 #[.val (.ref a1)] []) := by first | (simp [entryFrame, mkF, argsToLocals, Value.category]; done) | rfl
def Q3 (Z : State) (a1 : Addr) (h0 : Heap) (n0 : Nat) (v : Option Value) (h : Heap) (L : List Loc) : Prop := v = none ∧ Fr n0 L ∧ h = h0
set_option maxRecDepth 65536 in
set_option maxHeartbeats 40000000 in
theorem rm3 (l : Launch) (Z : State) (a0 : Array Value) (hw : ∀ d ∈ tables_1, d.before a0 Z = true) (ws : List Jvm.Cond) (a1 : Addr) (h0 : Heap) (n0 : Nat) (Z0 : n0 ≤ h0.size)  :
    MetFree l (⟨"java/lang/Record", "<init>", "()V"⟩ : MethodName) (head1 (Jvm.Cond.code (⟨"java/lang/Record", "<init>", "()V"⟩ : MethodName) jdk_30_method_1_code 1 none :: ws) ({ frames := 1, cells := 0, slots := 0, locals := 12 } : Room)) (fun a U => a = #[(.ref a1)] ∧ Z.Warmed39 U.vm ∧ U.heap = h0) (fun _ _ _ _ _ => True) (fun _ U o U' => ∃ v L, o = .returned v ∧ Q3 Z a1 h0 n0 v U'.heap L ∧ FrameEnd U o U' L ({ frames := 1, cells := 0, slots := 0, locals := 12 } : Room).cells ({ frames := 1, cells := 0, slots := 0, locals := 12 } : Room).slots) := by
  refine MetFree.of_bodySF (plainFor_of_name pn_3) hisR ?_
  intro p e s m args below meth c s₁ Bd hml0 hP hK
  obtain ⟨rfl, hZ, hh⟩ := hP
  have hx := Bd.exec
  have hby := Bd.bytes
  have hml : c.maxLocals = 1 := hml0
  have hown : s.vm.findClass "java/lang/Record" = some m.cls := findClass_of_methodNamed Bd.named
  have hnm := (name_of_methodNamed Bd.named Bd.method).1
  have X0 : Stand p l e ({ frames := 1, cells := 0, slots := 0, locals := 12 } : Room) s m #[(.ref a1)] below meth c s₁ [] 0 0 := Stand.of_body Bd
  have e0 : s₁.heap = h0 := by rw [← hh, Bd.state]; rfl
  have N0 := Fr.nil n0
  have pre0 : ∀ t, Steps p.tables e below (s₁.setTop (mkF m 0 #[.val (.ref a1)] [])) t → Steps p.tables e below (s₁.setTop (entryFrame m #[(.ref a1)] 1)) t := fun t k => castTop (ef_3 m a1) k
  obtain ⟨T69, X69, e69, st69⟩ := initO X0 hx hZ hown (hw _ (List.mem_of_getElem? (i := 17) rfl)) (hw _ (List.mem_of_getElem? (i := 18) rfl)) (hw _ (List.mem_of_getElem? (i := 19) rfl)) e0 (g := (mkF m 1 #[.val (.ref a1)] [(.ref a1)])) rfl (by rw [hml]; rfl) rfl (hb hby d3_1) (by decide) (W := 0) (by show 2 * 0 + _ ≤ _; exact Nat.le_of_eq rfl) (by decide)
  have k70 : ∀ t, Steps p.tables e below (T69.setTop (mkF m 4 #[.val (.ref a1)] [])) t → Steps p.tables e below (s₁.setTop (entryFrame m #[(.ref a1)] 1)) t := fun t hk => pre0 t (by
    show Steps p.tables e below (s₁.setTop (mkF m 0 #[.val (.ref a1)] [])) _
    refine XS.aloadN X0.here hx rfl (hb hby d3_0) rfl rfl ?_
    show Steps p.tables e below (s₁.setTop (mkF m 1 #[.val (.ref a1)] [(.ref a1)])) _
    refine st69 _ ?_
    exact hk)
  obtain ⟨fs, hr, hrun, hended, hW, hsame⟩ := X69.leave (v := none) (fun _ => rfl)
  refine ⟨_, _, k70 _ ?_, hrun, hended, _, _, rfl, ?_, ⟨_, rfl⟩, hW, hsame.mono (by decide) (by decide)⟩
  · show Steps p.tables e below (T69.setTop (mkF m 4 #[.val (.ref a1)] [])) _
    exact X69.returnOut hx Bd.returns (hb hby d3_4) hr
  · show Q3 Z a1 h0 n0 _ T69.heap _
    rw [e69]
    exact ⟨rfl, N0, rfl⟩
theorem d2_0 : decode prog_40_method_1_code 0 = .ok (.aload_n 0, 1) := by decide +kernel
theorem d2_1 : decode prog_40_method_1_code 1 = .ok (.invokespecial 3, 3) := by decide +kernel
theorem d2_4 : decode prog_40_method_1_code 4 = .ok (.lload_n 1, 1) := by decide +kernel
theorem d2_5 : decode prog_40_method_1_code 5 = .ok (.lconst 0, 1) := by decide +kernel
theorem d2_6 : decode prog_40_method_1_code 6 = .ok (.lcmp, 1) := by decide +kernel
theorem d2_7 : decode prog_40_method_1_code 7 = .ok (.ifCond .lt 11, 3) := by decide +kernel
theorem d2_10 : decode prog_40_method_1_code 10 = .ok (.lload_n 1, 1) := by decide +kernel
theorem d2_11 : decode prog_40_method_1_code 11 = .ok (.ldc2_w 9, 3) := by decide +kernel
theorem d2_14 : decode prog_40_method_1_code 14 = .ok (.lcmp, 1) := by decide +kernel
theorem d2_15 : decode prog_40_method_1_code 15 = .ok (.ifCond .le 17, 3) := by decide +kernel
theorem d2_18 : decode prog_40_method_1_code 18 = .ok (.new 11, 3) := by decide +kernel
theorem d2_21 : decode prog_40_method_1_code 21 = .ok (.dup, 1) := by decide +kernel
theorem d2_22 : decode prog_40_method_1_code 22 = .ok (.lload_n 1, 1) := by decide +kernel
-- pc 23 invokedynamic not read
theorem d2_28 : decode prog_40_method_1_code 28 = .ok (.invokespecial 17, 3) := by decide +kernel
theorem d2_31 : decode prog_40_method_1_code 31 = .ok (.athrow, 1) := by decide +kernel
theorem d2_32 : decode prog_40_method_1_code 32 = .ok (.aload_n 0, 1) := by decide +kernel
theorem d2_33 : decode prog_40_method_1_code 33 = .ok (.lload_n 1, 1) := by decide +kernel
theorem d2_34 : decode prog_40_method_1_code 34 = .ok (.putfield 20, 3) := by decide +kernel
theorem d2_37 : decode prog_40_method_1_code 37 = .ok (.return_, 1) := by decide +kernel
theorem pn_2 : plainName "com/example/bidwell/bidwell/market/Price" = true := by first | (simp [plainName, overriddenIn]; done) | decide +kernel
theorem ef_2 (m : MethodId) (a1 : Addr) (q2 : Int64) : entryFrame m #[(.ref a1), (.long q2)] 3 = (mkF m 0 #[.val (.ref a1), .val (.long q2), .second] []) := by first | (simp [entryFrame, mkF, argsToLocals, Value.category]; done) | rfl
def Q2 (Z : State) (a1 : Addr) (q2 : Int64) (h0 : Heap) (n0 : Nat) (v : Option Value) (h : Heap) (L : List Loc) : Prop := v = none ∧ Fr n0 L ∧ Keep h0 h [a1] ∧ Exa Z h a1 "com/example/bidwell/bidwell/market/Price" ∧ Fld Z h a1 "com/example/bidwell/bidwell/market/Price" "units" "J" (.long q2)
set_option maxRecDepth 65536 in
set_option maxHeartbeats 40000000 in
theorem rm2 (l : Launch) (Z : State) (a0 : Array Value) (hw : ∀ d ∈ tables_1, d.before a0 Z = true) (ws : List Jvm.Cond) (a1 : Addr) (q2 : Int64) (h0 : Heap) (n0 : Nat) (Z0 : n0 ≤ h0.size) (Fu : Fld Z h0 a1 "com/example/bidwell/bidwell/market/Price" "units" "J" (.long (0 : Int64))) (Ex : Exa Z h0 a1 "com/example/bidwell/bidwell/market/Price") (ga : n0 ≤ a1) (hq0 : ¬ q2 < (0 : Int64)) (hq1 : ¬ (999999999999 : Int64) < q2) :
    MetFree l (⟨"com/example/bidwell/bidwell/market/Price", "<init>", "(J)V"⟩ : MethodName) (head1 (Jvm.Cond.code (⟨"com/example/bidwell/bidwell/market/Price", "<init>", "(J)V"⟩ : MethodName) prog_40_method_1_code 3 none :: ws) ({ frames := 2, cells := 0, slots := 0, locals := 24 } : Room)) (fun a U => a = #[(.ref a1), (.long q2)] ∧ Z.Warmed39 U.vm ∧ U.heap = h0) (fun _ _ _ _ _ => True) (fun _ U o U' => ∃ v L, o = .returned v ∧ Q2 Z a1 q2 h0 n0 v U'.heap L ∧ FrameEnd U o U' L ({ frames := 2, cells := 0, slots := 0, locals := 24 } : Room).cells ({ frames := 2, cells := 0, slots := 0, locals := 24 } : Room).slots) := by
  refine MetFree.of_bodySF (plainFor_of_name pn_2) hisR ?_
  intro p e s m args below meth c s₁ Bd hml0 hP hK
  obtain ⟨rfl, hZ, hh⟩ := hP
  have hx := Bd.exec
  have hby := Bd.bytes
  have hml : c.maxLocals = 3 := hml0
  have hown : s.vm.findClass "com/example/bidwell/bidwell/market/Price" = some m.cls := findClass_of_methodNamed Bd.named
  have hnm := (name_of_methodNamed Bd.named Bd.method).1
  have X0 : Stand p l e ({ frames := 2, cells := 0, slots := 0, locals := 24 } : Room) s m #[(.ref a1), (.long q2)] below meth c s₁ [] 0 0 := Stand.of_body Bd
  have e0 : s₁.heap = h0 := by rw [← hh, Bd.state]; rfl
  have N0 := Fr.nil n0
  have pre0 : ∀ t, Steps p.tables e below (s₁.setTop (mkF m 0 #[.val (.ref a1), .val (.long q2), .second] [])) t → Steps p.tables e below (s₁.setTop (entryFrame m #[(.ref a1), (.long q2)] 3)) t := fun t k => castTop (ef_2 m a1 q2) k
  obtain ⟨_, _, ⟨T71, L71, k71, n71⟩, -, X71, ⟨Lc71, hQ71, l71, y71, z71⟩, st71⟩ := X0.specialBack hx (y := (⟨"java/lang/Record", "<init>", "()V"⟩ : MethodName)) rfl hown (mvT hZ (hw _ (List.mem_of_getElem? (i := 12) rfl))) (mvT hZ (hw _ (List.mem_of_getElem? (i := 13) rfl))) (mvT hZ (hw _ (List.mem_of_getElem? (i := 16) rfl))) (by decide) (backOf (W := 0) (rm3 l Z a0 hw [] a1  h0 n0 Z0 ) hZ (hw _ (List.mem_of_getElem? (i := 16) rfl)) (hw _ (List.mem_of_getElem? (i := 15) rfl)) (by decide) (by decide)) (g := (mkF m 1 #[.val (.ref a1), .val (.long q2), .second] [(.ref a1)])) rfl (by rw [hml]; rfl) (Steps.refl _) (a := a1) (argsL := []) (rest := []) (lenOf pd_1 rfl) rfl (by show 2 * 0 + _ ≤ _; exact Nat.le_of_eq rfl) (hb hby d2_1) (fun _ _ => ⟨rfl, e0, (by decide : 0 + 0 ≤ _), (by decide : 0 + 0 ≤ _)⟩)
  dsimp only [Pt.U, Pt.locs, Pt.cells, Pt.slots] at X71 l71 y71 z71 st71 hQ71
  subst l71 y71 z71
  obtain ⟨rfl, N71q, e71⟩ := hQ71
  have N71 := Fr.app N0 N71q
  obtain ⟨T72, h72, X72, e72, W72, st72⟩ := putF X71 hx hZ hown (host := "") (Or.inl (hw _ (List.mem_of_getElem? (i := 21) rfl))) Via.refl e71 Fu Ex (Or.inr ⟨(hw _ (List.mem_of_getElem? (i := 22) rfl)), rfl, hnm⟩) (hw _ (List.mem_of_getElem? (i := 7) rfl)) (ty := .long) (by decide) rfl rfl (g := (mkF m 34 #[.val (.ref a1), .val (.long q2), .second] [(.long q2), (.ref a1)])) rfl rfl (hb hby d2_34)
  have F73 := Fu.same W72
  have E74 := Ex.wr W72
  have K75 := (Keep.refl h0 [a1]).wr W72 (Or.inl (List.mem_of_getElem? (i := 0) rfl))
  have Z76 : n0 ≤ h72.size := W72.size ▸ Z0
  have N77 := Fr.snoc X72 N71 ga
  have k78 : ∀ t, Steps p.tables e below (T72.setTop (mkF m 37 #[.val (.ref a1), .val (.long q2), .second] [])) t → Steps p.tables e below (s₁.setTop (entryFrame m #[(.ref a1), (.long q2)] 3)) t := fun t hk => pre0 t (by
    show Steps p.tables e below (s₁.setTop (mkF m 0 #[.val (.ref a1), .val (.long q2), .second] [])) _
    refine XS.aloadN X0.here hx rfl (hb hby d2_0) rfl rfl ?_
    show Steps p.tables e below (s₁.setTop (mkF m 1 #[.val (.ref a1), .val (.long q2), .second] [(.ref a1)])) _
    refine st71.trans ?_
    show Steps p.tables e below (T71.setTop (mkF m 4 #[.val (.ref a1), .val (.long q2), .second] [])) _
    refine XS.lloadN X71.here hx rfl (hb hby d2_4) rfl ?_
    show Steps p.tables e below (T71.setTop (mkF m 5 #[.val (.ref a1), .val (.long q2), .second] [(.long q2)])) _
    refine XS.lconst X71.here hx rfl (hb hby d2_5) ?_
    show Steps p.tables e below (T71.setTop (mkF m 6 #[.val (.ref a1), .val (.long q2), .second] [(.long (0 : Int64)), (.long q2)])) _
    refine XS.lcmp X71.here hx rfl (hb hby d2_6) rfl ?_
    show Steps p.tables e below (T71.setTop (mkF m 7 #[.val (.ref a1), .val (.long q2), .second] [(.int (lcmpW q2 (0 : Int64)))])) _
    refine XS.ifNo X71.here hx rfl (hb hby d2_7) rfl ((if0 _ _).trans (flt (fun q => hq0 ((lw_lt _ _).mp q))).1) ?_
    show Steps p.tables e below (T71.setTop (mkF m 10 #[.val (.ref a1), .val (.long q2), .second] [])) _
    refine XS.lloadN X71.here hx rfl (hb hby d2_10) rfl ?_
    show Steps p.tables e below (T71.setTop (mkF m 11 #[.val (.ref a1), .val (.long q2), .second] [(.long q2)])) _
    refine X71.ldc2Long hx hown (mvT hZ (hw _ (List.mem_of_getElem? (i := 20) rfl))) (g := (mkF m 11 #[.val (.ref a1), .val (.long q2), .second] [(.long q2)])) rfl (hb hby d2_11) _ ?_
    show Steps p.tables e below (T71.setTop (mkF m 14 #[.val (.ref a1), .val (.long q2), .second] [(.long (999999999999 : Int64)), (.long q2)])) _
    refine XS.lcmp X71.here hx rfl (hb hby d2_14) rfl ?_
    show Steps p.tables e below (T71.setTop (mkF m 15 #[.val (.ref a1), .val (.long q2), .second] [(.int (lcmpW q2 (999999999999 : Int64)))])) _
    refine XS.ifYes X71.here hx rfl (pc0 := 15) (pc' := 32) rfl (hb hby d2_15) rfl ((if0 _ _).trans (flt (fun q => hq1 ((lw_gt _ _).mp q))).2.2.2) (by decide) (by decide) ?_
    show Steps p.tables e below (T71.setTop (mkF m 32 #[.val (.ref a1), .val (.long q2), .second] [])) _
    refine XS.aloadN X71.here hx rfl (hb hby d2_32) rfl rfl ?_
    show Steps p.tables e below (T71.setTop (mkF m 33 #[.val (.ref a1), .val (.long q2), .second] [(.ref a1)])) _
    refine XS.lloadN X71.here hx rfl (hb hby d2_33) rfl ?_
    show Steps p.tables e below (T71.setTop (mkF m 34 #[.val (.ref a1), .val (.long q2), .second] [(.long q2), (.ref a1)])) _
    refine st72 _ ?_
    exact hk)
  obtain ⟨fs, hr, hrun, hended, hW, hsame⟩ := X72.leave (v := none) (fun _ => rfl)
  refine ⟨_, _, k78 _ ?_, hrun, hended, _, _, rfl, ?_, ⟨_, rfl⟩, hW, hsame.mono (by decide) (by decide)⟩
  · show Steps p.tables e below (T72.setTop (mkF m 37 #[.val (.ref a1), .val (.long q2), .second] [])) _
    exact X72.returnOut hx Bd.returns (hb hby d2_37) hr
  · show Q2 Z a1 q2 h0 n0 _ T72.heap _
    rw [e72]
    exact ⟨rfl, N77, K75, E74, F73⟩
theorem d1_0 : decode jdk_29_method_70_code 0 = .ok (.lload_n 0, 1) := by decide +kernel
theorem d1_1 : decode jdk_29_method_70_code 1 = .ok (.lload_n 2, 1) := by decide +kernel
theorem d1_2 : decode jdk_29_method_70_code 2 = .ok (.lcmp, 1) := by decide +kernel
theorem d1_3 : decode jdk_29_method_70_code 3 = .ok (.ifCond .gt 7, 3) := by decide +kernel
theorem d1_6 : decode jdk_29_method_70_code 6 = .ok (.lload_n 0, 1) := by decide +kernel
theorem d1_7 : decode jdk_29_method_70_code 7 = .ok (.goto 4, 3) := by decide +kernel
theorem d1_10 : decode jdk_29_method_70_code 10 = .ok (.lload_n 2, 1) := by decide +kernel
theorem d1_11 : decode jdk_29_method_70_code 11 = .ok (.lreturn, 1) := by decide +kernel
theorem ef_1 (m : MethodId) (q1 : Int64) (q2 : Int64) : entryFrame m #[(.long q1), (.long q2)] 4 = (mkF m 0 #[.val (.long q1), .second, .val (.long q2), .second] []) := by first | (simp [entryFrame, mkF, argsToLocals, Value.category]; done) | rfl
def Q1 (Z : State) (q1 : Int64) (q2 : Int64) (h0 : Heap) (n0 : Nat) (v : Option Value) (h : Heap) (L : List Loc) : Prop := ∃ r : Int64, v = some (.long r) ∧ r = (if q2 < q1 then q2 else q1) ∧ Fr n0 L ∧ h = h0
set_option maxRecDepth 65536 in
set_option maxHeartbeats 40000000 in
theorem rm1 (l : Launch) (Z : State) (a0 : Array Value) (hw : ∀ d ∈ tables_1, d.before a0 Z = true) (ws : List Jvm.Cond) (q1 : Int64) (q2 : Int64) (h0 : Heap) (n0 : Nat) (Z0 : n0 ≤ h0.size)  :
    MetFree l (⟨"java/lang/Math", "min", "(JJ)J"⟩ : MethodName) (head1 (Jvm.Cond.code (⟨"java/lang/Math", "min", "(JJ)J"⟩ : MethodName) jdk_29_method_70_code 4 (some .long) :: ws) ({ frames := 0, cells := 0, slots := 0, locals := 0 } : Room)) (fun a U => a = #[(.long q1), (.long q2)] ∧ Z.Warmed39 U.vm ∧ U.heap = h0) (fun _ _ _ _ _ => True) (fun _ U o U' => ∃ v L, o = .returned v ∧ Q1 Z q1 q2 h0 n0 v U'.heap L ∧ FrameEnd U o U' L ({ frames := 0, cells := 0, slots := 0, locals := 0 } : Room).cells ({ frames := 0, cells := 0, slots := 0, locals := 0 } : Room).slots) := by
  refine MetFree.of_bodySF (Jvm.Free.JP.mathPlain rfl (by decide +kernel)) hisR ?_
  intro p e s m args below meth c s₁ Bd hml0 hP hK
  obtain ⟨rfl, hZ, hh⟩ := hP
  have hx := Bd.exec
  have hby := Bd.bytes
  have hml : c.maxLocals = 4 := hml0
  have hown : s.vm.findClass "java/lang/Math" = some m.cls := findClass_of_methodNamed Bd.named
  have hnm := (name_of_methodNamed Bd.named Bd.method).1
  have X0 : Stand p l e ({ frames := 0, cells := 0, slots := 0, locals := 0 } : Room) s m #[(.long q1), (.long q2)] below meth c s₁ [] 0 0 := Stand.of_body Bd
  have e0 : s₁.heap = h0 := by rw [← hh, Bd.state]; rfl
  have N0 := Fr.nil n0
  have pre0 : ∀ t, Steps p.tables e below (s₁.setTop (mkF m 0 #[.val (.long q1), .second, .val (.long q2), .second] [])) t → Steps p.tables e below (s₁.setTop (entryFrame m #[(.long q1), (.long q2)] 4)) t := fun t k => castTop (ef_1 m q1 q2) k
  have k79 : ∀ t, Steps p.tables e below (s₁.setTop (mkF m 3 #[.val (.long q1), .second, .val (.long q2), .second] [(.int (lcmpW q1 q2))])) t → Steps p.tables e below (s₁.setTop (entryFrame m #[(.long q1), (.long q2)] 4)) t := fun t hk => pre0 t (by
    show Steps p.tables e below (s₁.setTop (mkF m 0 #[.val (.long q1), .second, .val (.long q2), .second] [])) _
    refine XS.lloadN X0.here hx rfl (hb hby d1_0) rfl ?_
    show Steps p.tables e below (s₁.setTop (mkF m 1 #[.val (.long q1), .second, .val (.long q2), .second] [(.long q1)])) _
    refine XS.lloadN X0.here hx rfl (hb hby d1_1) rfl ?_
    show Steps p.tables e below (s₁.setTop (mkF m 2 #[.val (.long q1), .second, .val (.long q2), .second] [(.long q2), (.long q1)])) _
    refine XS.lcmp X0.here hx rfl (hb hby d1_2) rfl ?_
    exact hk)
  obtain ⟨r0, hr0, k80⟩ : ∃ (r0 : Int64), (r0 = (if q2 < q1 then q2 else q1)) ∧ ∀ t, Steps p.tables e below (s₁.setTop (mkF m 11 #[.val (.long q1), .second, .val (.long q2), .second] [(.long r0)])) t → Steps p.tables e below (s₁.setTop (entryFrame m #[(.long q1), (.long q2)] 4)) t := by
    by_cases hc3 : q2 < q1
    ·
      refine ⟨q2, ((if_pos hc3).trans rfl).symm, fun t hk => k79 t ?_⟩
      show Steps p.tables e below (s₁.setTop (mkF m 3 #[.val (.long q1), .second, .val (.long q2), .second] [(.int (lcmpW q1 q2))])) _
      refine XS.ifYes X0.here hx rfl (pc0 := 3) (pc' := 10) rfl (hb hby d1_3) rfl ((if0 _ _).trans (tlt ((lw_gt _ _).mpr hc3)).2.2.1) (by decide) (by decide) ?_
      show Steps p.tables e below (s₁.setTop (mkF m 10 #[.val (.long q1), .second, .val (.long q2), .second] [])) _
      refine XS.lloadN X0.here hx rfl (hb hby d1_10) rfl ?_
      exact hk
    ·
      refine ⟨q1, ((if_neg hc3).trans rfl).symm, fun t hk => k79 t ?_⟩
      show Steps p.tables e below (s₁.setTop (mkF m 3 #[.val (.long q1), .second, .val (.long q2), .second] [(.int (lcmpW q1 q2))])) _
      refine XS.ifNo X0.here hx rfl (hb hby d1_3) rfl ((if0 _ _).trans (flt (fun q => hc3 ((lw_gt _ _).mp q))).2.2.1) ?_
      show Steps p.tables e below (s₁.setTop (mkF m 6 #[.val (.long q1), .second, .val (.long q2), .second] [])) _
      refine XS.lloadN X0.here hx rfl (hb hby d1_6) rfl ?_
      show Steps p.tables e below (s₁.setTop (mkF m 7 #[.val (.long q1), .second, .val (.long q2), .second] [(.long q1)])) _
      refine XS.goto X0.here hx rfl (pc0 := 7) (pc' := 11) rfl (hb hby d1_7) (by decide) (by decide) ?_
      exact hk
  obtain ⟨fs, hr, hrun, hended, hW, hsame⟩ := X0.leave (v := some (.long r0)) (fun h => by rw [Bd.returns] at h; cases h)
  refine ⟨_, _, k80 _ ?_, hrun, hended, _, _, rfl, ?_, ⟨_, rfl⟩, hW, hsame.mono (by decide) (by decide)⟩
  · show Steps p.tables e below (s₁.setTop (mkF m 11 #[.val (.long q1), .second, .val (.long q2), .second] [(.long r0)])) _
    exact retOut X0 hx Bd.returns rfl (Or.inr (Or.inl ⟨rfl, rfl, _, rfl⟩)) (hb hby d1_11) hr
  · show Q1 Z q1 q2 h0 n0 _ s₁.heap _
    rw [e0]
    exact ⟨_, rfl, hr0, N0, rfl⟩
theorem d5_0 : decode prog_40_method_4_code 0 = .ok (.aload_n 0, 1) := by decide +kernel
theorem d5_1 : decode prog_40_method_4_code 1 = .ok (.getfield 20, 3) := by decide +kernel
theorem d5_4 : decode prog_40_method_4_code 4 = .ok (.aload_n 1, 1) := by decide +kernel
theorem d5_5 : decode prog_40_method_4_code 5 = .ok (.getfield 20, 3) := by decide +kernel
theorem d5_8 : decode prog_40_method_4_code 8 = .ok (.lrem, 1) := by decide +kernel
theorem d5_9 : decode prog_40_method_4_code 9 = .ok (.lconst 0, 1) := by decide +kernel
theorem d5_10 : decode prog_40_method_4_code 10 = .ok (.lcmp, 1) := by decide +kernel
theorem d5_11 : decode prog_40_method_4_code 11 = .ok (.ifCond .ne 7, 3) := by decide +kernel
theorem d5_14 : decode prog_40_method_4_code 14 = .ok (.iconst 1, 1) := by decide +kernel
theorem d5_15 : decode prog_40_method_4_code 15 = .ok (.goto 4, 3) := by decide +kernel
theorem d5_18 : decode prog_40_method_4_code 18 = .ok (.iconst 0, 1) := by decide +kernel
theorem d5_19 : decode prog_40_method_4_code 19 = .ok (.ireturn, 1) := by decide +kernel
theorem pn_5 : plainName "com/example/bidwell/bidwell/market/Price" = true := by first | (simp [plainName, overriddenIn]; done) | decide +kernel
theorem ef_5 (m : MethodId) (a1 : Addr) (a2 : Addr) : entryFrame m #[(.ref a1), (.ref a2)] 2 = (mkF m 0 #[.val (.ref a1), .val (.ref a2)] []) := by first | (simp [entryFrame, mkF, argsToLocals, Value.category]; done) | rfl
def Q5 (Z : State) (a1 : Addr) (a2 : Addr) (w1 : Int64) (w2 : Int64) (h0 : Heap) (n0 : Nat) (v : Option Value) (h : Heap) (L : List Loc) : Prop := ∃ r : Int32, v = some (.int r) ∧ r = (if (w1 % w2) = (0 : Int64) then (1 : Int32) else (0 : Int32)) ∧ Fr n0 L ∧ h = h0
set_option maxRecDepth 65536 in
set_option maxHeartbeats 40000000 in
theorem rm5 (l : Launch) (Z : State) (a0 : Array Value) (hw : ∀ d ∈ tables_1, d.before a0 Z = true) (ws : List Jvm.Cond) (a1 : Addr) (a2 : Addr) (w1 : Int64) (w2 : Int64) (h0 : Heap) (n0 : Nat) (Z0 : n0 ≤ h0.size) (Fu : Fld Z h0 a1 "com/example/bidwell/bidwell/market/Price" "units" "J" (.long w1)) (Fv : Fld Z h0 a2 "com/example/bidwell/bidwell/market/Price" "units" "J" (.long w2)) (hnz : w2 ≠ 0) :
    MetFree l (⟨"com/example/bidwell/bidwell/market/Price", "isMultipleOf", "(Lcom/example/bidwell/bidwell/market/Price;)Z"⟩ : MethodName) (head1 (Jvm.Cond.code (⟨"com/example/bidwell/bidwell/market/Price", "isMultipleOf", "(Lcom/example/bidwell/bidwell/market/Price;)Z"⟩ : MethodName) prog_40_method_4_code 2 (some .boolean) :: ws) ({ frames := 0, cells := 0, slots := 0, locals := 0 } : Room)) (fun a U => a = #[(.ref a1), (.ref a2)] ∧ Z.Warmed39 U.vm ∧ U.heap = h0) (fun _ _ _ _ _ => True) (fun _ U o U' => ∃ v L, o = .returned v ∧ Q5 Z a1 a2 w1 w2 h0 n0 v U'.heap L ∧ FrameEnd U o U' L ({ frames := 0, cells := 0, slots := 0, locals := 0 } : Room).cells ({ frames := 0, cells := 0, slots := 0, locals := 0 } : Room).slots) := by
  refine MetFree.of_bodySF (plainFor_of_name pn_5) hisR ?_
  intro p e s m args below meth c s₁ Bd hml0 hP hK
  obtain ⟨rfl, hZ, hh⟩ := hP
  have hx := Bd.exec
  have hby := Bd.bytes
  have hml : c.maxLocals = 2 := hml0
  have hown : s.vm.findClass "com/example/bidwell/bidwell/market/Price" = some m.cls := findClass_of_methodNamed Bd.named
  have hnm := (name_of_methodNamed Bd.named Bd.method).1
  have X0 : Stand p l e ({ frames := 0, cells := 0, slots := 0, locals := 0 } : Room) s m #[(.ref a1), (.ref a2)] below meth c s₁ [] 0 0 := Stand.of_body Bd
  have e0 : s₁.heap = h0 := by rw [← hh, Bd.state]; rfl
  have N0 := Fr.nil n0
  have pre0 : ∀ t, Steps p.tables e below (s₁.setTop (mkF m 0 #[.val (.ref a1), .val (.ref a2)] [])) t → Steps p.tables e below (s₁.setTop (entryFrame m #[(.ref a1), (.ref a2)] 2)) t := fun t k => castTop (ef_5 m a1 a2) k
  obtain ⟨T81, X81, e81, st81⟩ := getF X0 hx hZ hown (host := "") (Or.inl (hw _ (List.mem_of_getElem? (i := 21) rfl))) Via.refl e0 Fu (g := (mkF m 1 #[.val (.ref a1), .val (.ref a2)] [(.ref a1)])) rfl rfl (hb hby d5_1)
  obtain ⟨T82, X82, e82, st82⟩ := getF X81 hx hZ hown (host := "") (Or.inl (hw _ (List.mem_of_getElem? (i := 21) rfl))) Via.refl e81 Fv (g := (mkF m 5 #[.val (.ref a1), .val (.ref a2)] [(.ref a2), (.long w1)])) rfl rfl (hb hby d5_5)
  have k83 : ∀ t, Steps p.tables e below (T82.setTop (mkF m 11 #[.val (.ref a1), .val (.ref a2)] [(.int (lcmpW (w1 % w2) (0 : Int64)))])) t → Steps p.tables e below (s₁.setTop (entryFrame m #[(.ref a1), (.ref a2)] 2)) t := fun t hk => pre0 t (by
    show Steps p.tables e below (s₁.setTop (mkF m 0 #[.val (.ref a1), .val (.ref a2)] [])) _
    refine XS.aloadN X0.here hx rfl (hb hby d5_0) rfl rfl ?_
    show Steps p.tables e below (s₁.setTop (mkF m 1 #[.val (.ref a1), .val (.ref a2)] [(.ref a1)])) _
    refine st81 _ ?_
    show Steps p.tables e below (T81.setTop (mkF m 4 #[.val (.ref a1), .val (.ref a2)] [(.long w1)])) _
    refine XS.aloadN X81.here hx rfl (hb hby d5_4) rfl rfl ?_
    show Steps p.tables e below (T81.setTop (mkF m 5 #[.val (.ref a1), .val (.ref a2)] [(.ref a2), (.long w1)])) _
    refine st82 _ ?_
    show Steps p.tables e below (T82.setTop (mkF m 8 #[.val (.ref a1), .val (.ref a2)] [(.long w2), (.long w1)])) _
    refine own_lremM X82 hx rfl (hb hby d5_8) rfl hnz ?_
    show Steps p.tables e below (T82.setTop (mkF m 9 #[.val (.ref a1), .val (.ref a2)] [(.long (w1 % w2))])) _
    refine XS.lconst X82.here hx rfl (hb hby d5_9) ?_
    show Steps p.tables e below (T82.setTop (mkF m 10 #[.val (.ref a1), .val (.ref a2)] [(.long (0 : Int64)), (.long (w1 % w2))])) _
    refine XS.lcmp X82.here hx rfl (hb hby d5_10) rfl ?_
    exact hk)
  obtain ⟨r0, hr0, k84⟩ : ∃ (r0 : Int32), (r0 = (if (w1 % w2) = (0 : Int64) then (1 : Int32) else (0 : Int32))) ∧ ∀ t, Steps p.tables e below (T82.setTop (mkF m 19 #[.val (.ref a1), .val (.ref a2)] [(.int r0)])) t → Steps p.tables e below (s₁.setTop (entryFrame m #[(.ref a1), (.ref a2)] 2)) t := by
    by_cases hc11 : (w1 % w2) = (0 : Int64)
    ·
      refine ⟨(1 : Int32), ((if_pos hc11).trans rfl).symm, fun t hk => k83 t ?_⟩
      show Steps p.tables e below (T82.setTop (mkF m 11 #[.val (.ref a1), .val (.ref a2)] [(.int (lcmpW (w1 % w2) (0 : Int64)))])) _
      refine XS.ifNo X82.here hx rfl (hb hby d5_11) rfl ((if0 _ _).trans (teq ((lw_eq _ _).mpr hc11)).2) ?_
      show Steps p.tables e below (T82.setTop (mkF m 14 #[.val (.ref a1), .val (.ref a2)] [])) _
      refine XS.iconst X82.here hx rfl (hb hby d5_14) ?_
      show Steps p.tables e below (T82.setTop (mkF m 15 #[.val (.ref a1), .val (.ref a2)] [(.int (1 : Int32))])) _
      refine XS.goto X82.here hx rfl (pc0 := 15) (pc' := 19) rfl (hb hby d5_15) (by decide) (by decide) ?_
      exact hk
    ·
      refine ⟨(0 : Int32), ((if_neg hc11).trans rfl).symm, fun t hk => k83 t ?_⟩
      show Steps p.tables e below (T82.setTop (mkF m 11 #[.val (.ref a1), .val (.ref a2)] [(.int (lcmpW (w1 % w2) (0 : Int64)))])) _
      refine XS.ifYes X82.here hx rfl (pc0 := 11) (pc' := 18) rfl (hb hby d5_11) rfl ((if0 _ _).trans (feq (fun q => hc11 ((lw_eq _ _).mp q))).2) (by decide) (by decide) ?_
      show Steps p.tables e below (T82.setTop (mkF m 18 #[.val (.ref a1), .val (.ref a2)] [])) _
      refine XS.iconst X82.here hx rfl (hb hby d5_18) ?_
      exact hk
  obtain ⟨fs, hr, hrun, hended, hW, hsame⟩ := X82.leave (v := some (.int (nar .boolean r0))) (fun h => by rw [Bd.returns] at h; cases h)
  refine ⟨_, _, k84 _ ?_, hrun, hended, _, _, rfl, ?_, ⟨_, rfl⟩, hW, hsame.mono (by decide) (by decide)⟩
  · show Steps p.tables e below (T82.setTop (mkF m 19 #[.val (.ref a1), .val (.ref a2)] [(.int r0)])) _
    exact retN X82 hx (t := .boolean) Bd.returns (by simp) (hb hby d5_19) hr
  · show Q5 Z a1 a2 w1 w2 h0 n0 _ T82.heap _
    rw [e82]
    exact ⟨_, rfl, (own_nar (by rw [hr0]; (repeat' split) <;> simp)).trans hr0, N0, rfl⟩
theorem pn_0 : plainName "com/example/bidwell/bidwell/market/PriceIsMultipleOfPinLaw" = true := by first | (simp [plainName, overriddenIn]; done) | decide +kernel
theorem ef_0 (m : MethodId) (sd : Int64) (q0 : Int64) (rr : Int64) (mode : Int32) : entryFrame m #[(.long sd), (.long q0), (.long rr), (.int mode)] maxLocals = (mkF m 0 #[.val (.long sd), .second, .val (.long q0), .second, .val (.long rr), .second, .val (.int mode), .unset, .unset, .unset, .unset, .unset, .unset, .unset, .unset, .unset, .unset, .unset, .unset, .unset, .unset, .unset, .unset, .unset, .unset] []) := by first | (simp [entryFrame, mkF, argsToLocals, Value.category, maxLocals]; done) | rfl
def Q0 (Z : State) (sd : Int64) (q0 : Int64) (rr : Int64) (mode : Int32) (h0 : Heap) (n0 : Nat) (v : Option Value) (h : Heap) (L : List Loc) : Prop := v = some (.int 1) ∧ Fr n0 L
set_option maxRecDepth 65536 in
set_option maxHeartbeats 40000000 in
theorem rm0 (l : Launch) (Z : State) (a0 : Array Value) (hw : ∀ d ∈ tables_1, d.before a0 Z = true) (ws : List Jvm.Cond) (sd : Int64) (q0 : Int64) (rr : Int64) (mode : Int32) (h0 : Heap) (n0 : Nat) (Z0 : n0 ≤ h0.size)  :
    MetFree l x (head1 (Jvm.Cond.code x code maxLocals ret :: ws) room_1) (fun a U => a = #[(.long sd), (.long q0), (.long rr), (.int mode)] ∧ Z.Warmed39 U.vm ∧ U.heap = h0) (fun _ _ _ _ _ => True) (fun _ U o U' => ∃ v L, o = .returned v ∧ Q0 Z sd q0 rr mode h0 n0 v U'.heap L ∧ FrameEnd U o U' L room_1.cells room_1.slots) := by
  refine MetFree.of_bodySF (plainFor_of_name pn_0) hisR ?_
  intro p e s m args below meth c s₁ Bd hml0 hP hK
  obtain ⟨rfl, hZ, hh⟩ := hP
  have hx := Bd.exec
  have hby := Bd.bytes
  have hml : c.maxLocals = 25 := hml0
  have hown : s.vm.findClass "com/example/bidwell/bidwell/market/PriceIsMultipleOfPinLaw" = some m.cls := findClass_of_methodNamed Bd.named
  have hnm := (name_of_methodNamed Bd.named Bd.method).1
  have X0 : Stand p l e room_1 s m #[(.long sd), (.long q0), (.long rr), (.int mode)] below meth c s₁ [] 0 0 := Stand.of_body Bd
  have e0 : s₁.heap = h0 := by rw [← hh, Bd.state]; rfl
  have N0 := Fr.nil n0
  have pre0 : ∀ t, Steps p.tables e below (s₁.setTop (mkF m 0 #[.val (.long sd), .second, .val (.long q0), .second, .val (.long rr), .second, .val (.int mode), .unset, .unset, .unset, .unset, .unset, .unset, .unset, .unset, .unset, .unset, .unset, .unset, .unset, .unset, .unset, .unset, .unset, .unset] [])) t → Steps p.tables e below (s₁.setTop (entryFrame m #[(.long sd), (.long q0), (.long rr), (.int mode)] maxLocals)) t := fun t k => castTop (ef_0 m sd q0 rr mode) k
  have k85 : ∀ t, Steps p.tables e below (s₁.setTop (mkF m 9 #[.val (.long sd), .second, .val (.long q0), .second, .val (.long rr), .second, .val (.int mode), .val (.long (999999999999 : Int64)), .second, .unset, .unset, .unset, .unset, .unset, .unset, .unset, .unset, .unset, .unset, .unset, .unset, .unset, .unset, .unset, .unset] [(.int (mode &&& (1 : Int32)))])) t → Steps p.tables e below (s₁.setTop (entryFrame m #[(.long sd), (.long q0), (.long rr), (.int mode)] maxLocals)) t := fun t hk => pre0 t (by
    show Steps p.tables e below (s₁.setTop (mkF m 0 #[.val (.long sd), .second, .val (.long q0), .second, .val (.long rr), .second, .val (.int mode), .unset, .unset, .unset, .unset, .unset, .unset, .unset, .unset, .unset, .unset, .unset, .unset, .unset, .unset, .unset, .unset, .unset, .unset] [])) _
    refine X0.ldc2Long hx hown (mvT hZ (hw _ (List.mem_of_getElem? (i := 0) rfl))) (g := (mkF m 0 #[.val (.long sd), .second, .val (.long q0), .second, .val (.long rr), .second, .val (.int mode), .unset, .unset, .unset, .unset, .unset, .unset, .unset, .unset, .unset, .unset, .unset, .unset, .unset, .unset, .unset, .unset, .unset, .unset] [])) rfl (hb hby at_0) _ ?_
    show Steps p.tables e below (s₁.setTop (mkF m 3 #[.val (.long sd), .second, .val (.long q0), .second, .val (.long rr), .second, .val (.int mode), .unset, .unset, .unset, .unset, .unset, .unset, .unset, .unset, .unset, .unset, .unset, .unset, .unset, .unset, .unset, .unset, .unset, .unset] [(.long (999999999999 : Int64))])) _
    refine XS.lstore X0.here hx rfl (hb hby at_3) rfl (l' := #[.val (.long sd), .second, .val (.long q0), .second, .val (.long rr), .second, .val (.int mode), .val (.long (999999999999 : Int64)), .second, .unset, .unset, .unset, .unset, .unset, .unset, .unset, .unset, .unset, .unset, .unset, .unset, .unset, .unset, .unset, .unset]) rfl ?_
    show Steps p.tables e below (s₁.setTop (mkF m 5 #[.val (.long sd), .second, .val (.long q0), .second, .val (.long rr), .second, .val (.int mode), .val (.long (999999999999 : Int64)), .second, .unset, .unset, .unset, .unset, .unset, .unset, .unset, .unset, .unset, .unset, .unset, .unset, .unset, .unset, .unset, .unset] [])) _
    refine XS.iload X0.here hx rfl (hb hby at_5) rfl ?_
    show Steps p.tables e below (s₁.setTop (mkF m 7 #[.val (.long sd), .second, .val (.long q0), .second, .val (.long rr), .second, .val (.int mode), .val (.long (999999999999 : Int64)), .second, .unset, .unset, .unset, .unset, .unset, .unset, .unset, .unset, .unset, .unset, .unset, .unset, .unset, .unset, .unset, .unset] [(.int mode)])) _
    refine XS.iconst X0.here hx rfl (hb hby at_7) ?_
    show Steps p.tables e below (s₁.setTop (mkF m 8 #[.val (.long sd), .second, .val (.long q0), .second, .val (.long rr), .second, .val (.int mode), .val (.long (999999999999 : Int64)), .second, .unset, .unset, .unset, .unset, .unset, .unset, .unset, .unset, .unset, .unset, .unset, .unset, .unset, .unset, .unset, .unset] [(.int (1 : Int32)), (.int mode)])) _
    refine XS.iand X0.here hx rfl (hb hby at_8) rfl ?_
    exact hk)
  obtain ⟨st, hst, k86⟩ : ∃ (st : Int64), (st = (if (mode &&& (1 : Int32)) = (0 : Int32) then ((1 : Int64) + ((sd &&& (9223372036854775807 : Int64)) % (999999999999 : Int64))) else ((1 : Int64) + (sd &&& (4095 : Int64))))) ∧ ∀ t, Steps p.tables e below (s₁.setTop (mkF m 36 #[.val (.long sd), .second, .val (.long q0), .second, .val (.long rr), .second, .val (.int mode), .val (.long (999999999999 : Int64)), .second, .val (.long st), .second, .unset, .unset, .unset, .unset, .unset, .unset, .unset, .unset, .unset, .unset, .unset, .unset, .unset, .unset] [])) t → Steps p.tables e below (s₁.setTop (entryFrame m #[(.long sd), (.long q0), (.long rr), (.int mode)] maxLocals)) t := by
    by_cases hc9 : (mode &&& (1 : Int32)) = (0 : Int32)
    ·
      refine ⟨((1 : Int64) + ((sd &&& (9223372036854775807 : Int64)) % (999999999999 : Int64))), ((if_pos hc9).trans rfl).symm, fun t hk => k85 t ?_⟩
      show Steps p.tables e below (s₁.setTop (mkF m 9 #[.val (.long sd), .second, .val (.long q0), .second, .val (.long rr), .second, .val (.int mode), .val (.long (999999999999 : Int64)), .second, .unset, .unset, .unset, .unset, .unset, .unset, .unset, .unset, .unset, .unset, .unset, .unset, .unset, .unset, .unset, .unset] [(.int (mode &&& (1 : Int32)))])) _
      refine XS.ifYes X0.here hx rfl (pc0 := 9) (pc' := 24) rfl (hb hby at_9) rfl ((if0 _ _).trans (teq hc9).1) (by decide) (by decide) ?_
      show Steps p.tables e below (s₁.setTop (mkF m 24 #[.val (.long sd), .second, .val (.long q0), .second, .val (.long rr), .second, .val (.int mode), .val (.long (999999999999 : Int64)), .second, .unset, .unset, .unset, .unset, .unset, .unset, .unset, .unset, .unset, .unset, .unset, .unset, .unset, .unset, .unset, .unset] [])) _
      refine XS.lconst X0.here hx rfl (hb hby at_24) ?_
      show Steps p.tables e below (s₁.setTop (mkF m 25 #[.val (.long sd), .second, .val (.long q0), .second, .val (.long rr), .second, .val (.int mode), .val (.long (999999999999 : Int64)), .second, .unset, .unset, .unset, .unset, .unset, .unset, .unset, .unset, .unset, .unset, .unset, .unset, .unset, .unset, .unset, .unset] [(.long (1 : Int64))])) _
      refine XS.lloadN X0.here hx rfl (hb hby at_25) rfl ?_
      show Steps p.tables e below (s₁.setTop (mkF m 26 #[.val (.long sd), .second, .val (.long q0), .second, .val (.long rr), .second, .val (.int mode), .val (.long (999999999999 : Int64)), .second, .unset, .unset, .unset, .unset, .unset, .unset, .unset, .unset, .unset, .unset, .unset, .unset, .unset, .unset, .unset, .unset] [(.long sd), (.long (1 : Int64))])) _
      refine X0.ldc2Long hx hown (mvT hZ (hw _ (List.mem_of_getElem? (i := 1) rfl))) (g := (mkF m 26 #[.val (.long sd), .second, .val (.long q0), .second, .val (.long rr), .second, .val (.int mode), .val (.long (999999999999 : Int64)), .second, .unset, .unset, .unset, .unset, .unset, .unset, .unset, .unset, .unset, .unset, .unset, .unset, .unset, .unset, .unset, .unset] [(.long sd), (.long (1 : Int64))])) rfl (hb hby at_26) _ ?_
      show Steps p.tables e below (s₁.setTop (mkF m 29 #[.val (.long sd), .second, .val (.long q0), .second, .val (.long rr), .second, .val (.int mode), .val (.long (999999999999 : Int64)), .second, .unset, .unset, .unset, .unset, .unset, .unset, .unset, .unset, .unset, .unset, .unset, .unset, .unset, .unset, .unset, .unset] [(.long (9223372036854775807 : Int64)), (.long sd), (.long (1 : Int64))])) _
      refine XS.land X0.here hx rfl (hb hby at_29) rfl ?_
      show Steps p.tables e below (s₁.setTop (mkF m 30 #[.val (.long sd), .second, .val (.long q0), .second, .val (.long rr), .second, .val (.int mode), .val (.long (999999999999 : Int64)), .second, .unset, .unset, .unset, .unset, .unset, .unset, .unset, .unset, .unset, .unset, .unset, .unset, .unset, .unset, .unset, .unset] [(.long (sd &&& (9223372036854775807 : Int64))), (.long (1 : Int64))])) _
      refine XS.lload X0.here hx rfl (hb hby at_30) rfl ?_
      show Steps p.tables e below (s₁.setTop (mkF m 32 #[.val (.long sd), .second, .val (.long q0), .second, .val (.long rr), .second, .val (.int mode), .val (.long (999999999999 : Int64)), .second, .unset, .unset, .unset, .unset, .unset, .unset, .unset, .unset, .unset, .unset, .unset, .unset, .unset, .unset, .unset, .unset] [(.long (999999999999 : Int64)), (.long (sd &&& (9223372036854775807 : Int64))), (.long (1 : Int64))])) _
      refine own_lremM X0 hx rfl (hb hby at_32) rfl (by decide) ?_
      show Steps p.tables e below (s₁.setTop (mkF m 33 #[.val (.long sd), .second, .val (.long q0), .second, .val (.long rr), .second, .val (.int mode), .val (.long (999999999999 : Int64)), .second, .unset, .unset, .unset, .unset, .unset, .unset, .unset, .unset, .unset, .unset, .unset, .unset, .unset, .unset, .unset, .unset] [(.long ((sd &&& (9223372036854775807 : Int64)) % (999999999999 : Int64))), (.long (1 : Int64))])) _
      refine XS.ladd X0.here hx rfl (hb hby at_33) rfl ?_
      show Steps p.tables e below (s₁.setTop (mkF m 34 #[.val (.long sd), .second, .val (.long q0), .second, .val (.long rr), .second, .val (.int mode), .val (.long (999999999999 : Int64)), .second, .unset, .unset, .unset, .unset, .unset, .unset, .unset, .unset, .unset, .unset, .unset, .unset, .unset, .unset, .unset, .unset] [(.long ((1 : Int64) + ((sd &&& (9223372036854775807 : Int64)) % (999999999999 : Int64))))])) _
      refine XS.lstore X0.here hx rfl (hb hby at_34) rfl (l' := #[.val (.long sd), .second, .val (.long q0), .second, .val (.long rr), .second, .val (.int mode), .val (.long (999999999999 : Int64)), .second, .val (.long ((1 : Int64) + ((sd &&& (9223372036854775807 : Int64)) % (999999999999 : Int64)))), .second, .unset, .unset, .unset, .unset, .unset, .unset, .unset, .unset, .unset, .unset, .unset, .unset, .unset, .unset]) rfl ?_
      exact hk
    ·
      refine ⟨((1 : Int64) + (sd &&& (4095 : Int64))), ((if_neg hc9).trans rfl).symm, fun t hk => k85 t ?_⟩
      show Steps p.tables e below (s₁.setTop (mkF m 9 #[.val (.long sd), .second, .val (.long q0), .second, .val (.long rr), .second, .val (.int mode), .val (.long (999999999999 : Int64)), .second, .unset, .unset, .unset, .unset, .unset, .unset, .unset, .unset, .unset, .unset, .unset, .unset, .unset, .unset, .unset, .unset] [(.int (mode &&& (1 : Int32)))])) _
      refine XS.ifNo X0.here hx rfl (hb hby at_9) rfl ((if0 _ _).trans (feq hc9).1) ?_
      show Steps p.tables e below (s₁.setTop (mkF m 12 #[.val (.long sd), .second, .val (.long q0), .second, .val (.long rr), .second, .val (.int mode), .val (.long (999999999999 : Int64)), .second, .unset, .unset, .unset, .unset, .unset, .unset, .unset, .unset, .unset, .unset, .unset, .unset, .unset, .unset, .unset, .unset] [])) _
      refine XS.lconst X0.here hx rfl (hb hby at_12) ?_
      show Steps p.tables e below (s₁.setTop (mkF m 13 #[.val (.long sd), .second, .val (.long q0), .second, .val (.long rr), .second, .val (.int mode), .val (.long (999999999999 : Int64)), .second, .unset, .unset, .unset, .unset, .unset, .unset, .unset, .unset, .unset, .unset, .unset, .unset, .unset, .unset, .unset, .unset] [(.long (1 : Int64))])) _
      refine XS.lloadN X0.here hx rfl (hb hby at_13) rfl ?_
      show Steps p.tables e below (s₁.setTop (mkF m 14 #[.val (.long sd), .second, .val (.long q0), .second, .val (.long rr), .second, .val (.int mode), .val (.long (999999999999 : Int64)), .second, .unset, .unset, .unset, .unset, .unset, .unset, .unset, .unset, .unset, .unset, .unset, .unset, .unset, .unset, .unset, .unset] [(.long sd), (.long (1 : Int64))])) _
      refine X0.ldc2Long hx hown (mvT hZ (hw _ (List.mem_of_getElem? (i := 28) rfl))) (g := (mkF m 14 #[.val (.long sd), .second, .val (.long q0), .second, .val (.long rr), .second, .val (.int mode), .val (.long (999999999999 : Int64)), .second, .unset, .unset, .unset, .unset, .unset, .unset, .unset, .unset, .unset, .unset, .unset, .unset, .unset, .unset, .unset, .unset] [(.long sd), (.long (1 : Int64))])) rfl (hb hby at_14) _ ?_
      show Steps p.tables e below (s₁.setTop (mkF m 17 #[.val (.long sd), .second, .val (.long q0), .second, .val (.long rr), .second, .val (.int mode), .val (.long (999999999999 : Int64)), .second, .unset, .unset, .unset, .unset, .unset, .unset, .unset, .unset, .unset, .unset, .unset, .unset, .unset, .unset, .unset, .unset] [(.long (4095 : Int64)), (.long sd), (.long (1 : Int64))])) _
      refine XS.land X0.here hx rfl (hb hby at_17) rfl ?_
      show Steps p.tables e below (s₁.setTop (mkF m 18 #[.val (.long sd), .second, .val (.long q0), .second, .val (.long rr), .second, .val (.int mode), .val (.long (999999999999 : Int64)), .second, .unset, .unset, .unset, .unset, .unset, .unset, .unset, .unset, .unset, .unset, .unset, .unset, .unset, .unset, .unset, .unset] [(.long (sd &&& (4095 : Int64))), (.long (1 : Int64))])) _
      refine XS.ladd X0.here hx rfl (hb hby at_18) rfl ?_
      show Steps p.tables e below (s₁.setTop (mkF m 19 #[.val (.long sd), .second, .val (.long q0), .second, .val (.long rr), .second, .val (.int mode), .val (.long (999999999999 : Int64)), .second, .unset, .unset, .unset, .unset, .unset, .unset, .unset, .unset, .unset, .unset, .unset, .unset, .unset, .unset, .unset, .unset] [(.long ((1 : Int64) + (sd &&& (4095 : Int64))))])) _
      refine XS.lstore X0.here hx rfl (hb hby at_19) rfl (l' := #[.val (.long sd), .second, .val (.long q0), .second, .val (.long rr), .second, .val (.int mode), .val (.long (999999999999 : Int64)), .second, .val (.long ((1 : Int64) + (sd &&& (4095 : Int64)))), .second, .unset, .unset, .unset, .unset, .unset, .unset, .unset, .unset, .unset, .unset, .unset, .unset, .unset, .unset]) rfl ?_
      show Steps p.tables e below (s₁.setTop (mkF m 21 #[.val (.long sd), .second, .val (.long q0), .second, .val (.long rr), .second, .val (.int mode), .val (.long (999999999999 : Int64)), .second, .val (.long ((1 : Int64) + (sd &&& (4095 : Int64)))), .second, .unset, .unset, .unset, .unset, .unset, .unset, .unset, .unset, .unset, .unset, .unset, .unset, .unset, .unset] [])) _
      refine XS.goto X0.here hx rfl (pc0 := 21) (pc' := 36) rfl (hb hby at_21) (by decide) (by decide) ?_
      exact hk
  obtain ⟨hst1, hst2, hst0⟩ := own_step sd mode st hst
  have k87 : ∀ t, Steps p.tables e below (s₁.setTop (mkF m 43 #[.val (.long sd), .second, .val (.long q0), .second, .val (.long rr), .second, .val (.int mode), .val (.long (999999999999 : Int64)), .second, .val (.long st), .second, .val (.long ((999999999999 : Int64) / st)), .second, .unset, .unset, .unset, .unset, .unset, .unset, .unset, .unset, .unset, .unset, .unset, .unset] [])) t → Steps p.tables e below (s₁.setTop (entryFrame m #[(.long sd), (.long q0), (.long rr), (.int mode)] maxLocals)) t := fun t hk => k86 t (by
    show Steps p.tables e below (s₁.setTop (mkF m 36 #[.val (.long sd), .second, .val (.long q0), .second, .val (.long rr), .second, .val (.int mode), .val (.long (999999999999 : Int64)), .second, .val (.long st), .second, .unset, .unset, .unset, .unset, .unset, .unset, .unset, .unset, .unset, .unset, .unset, .unset, .unset, .unset] [])) _
    refine XS.lload X0.here hx rfl (hb hby at_36) rfl ?_
    show Steps p.tables e below (s₁.setTop (mkF m 38 #[.val (.long sd), .second, .val (.long q0), .second, .val (.long rr), .second, .val (.int mode), .val (.long (999999999999 : Int64)), .second, .val (.long st), .second, .unset, .unset, .unset, .unset, .unset, .unset, .unset, .unset, .unset, .unset, .unset, .unset, .unset, .unset] [(.long (999999999999 : Int64))])) _
    refine XS.lload X0.here hx rfl (hb hby at_38) rfl ?_
    show Steps p.tables e below (s₁.setTop (mkF m 40 #[.val (.long sd), .second, .val (.long q0), .second, .val (.long rr), .second, .val (.int mode), .val (.long (999999999999 : Int64)), .second, .val (.long st), .second, .unset, .unset, .unset, .unset, .unset, .unset, .unset, .unset, .unset, .unset, .unset, .unset, .unset, .unset] [(.long st), (.long (999999999999 : Int64))])) _
    refine XS.ldiv X0.here hx rfl (hb hby at_40) rfl hst0 ?_
    show Steps p.tables e below (s₁.setTop (mkF m 41 #[.val (.long sd), .second, .val (.long q0), .second, .val (.long rr), .second, .val (.int mode), .val (.long (999999999999 : Int64)), .second, .val (.long st), .second, .unset, .unset, .unset, .unset, .unset, .unset, .unset, .unset, .unset, .unset, .unset, .unset, .unset, .unset] [(.long ((999999999999 : Int64) / st))])) _
    refine XS.lstore X0.here hx rfl (hb hby at_41) rfl (l' := #[.val (.long sd), .second, .val (.long q0), .second, .val (.long rr), .second, .val (.int mode), .val (.long (999999999999 : Int64)), .second, .val (.long st), .second, .val (.long ((999999999999 : Int64) / st)), .second, .unset, .unset, .unset, .unset, .unset, .unset, .unset, .unset, .unset, .unset, .unset, .unset]) rfl ?_
    exact hk)
  obtain ⟨mq, hmq, k88⟩ : ∃ (mq : Int64), mq = ((999999999999 : Int64) / st) ∧ ∀ t, Steps p.tables e below (s₁.setTop (mkF m 43 #[.val (.long sd), .second, .val (.long q0), .second, .val (.long rr), .second, .val (.int mode), .val (.long (999999999999 : Int64)), .second, .val (.long st), .second, .val (.long mq), .second, .unset, .unset, .unset, .unset, .unset, .unset, .unset, .unset, .unset, .unset, .unset, .unset] [])) t → Steps p.tables e below (s₁.setTop (entryFrame m #[(.long sd), (.long q0), (.long rr), (.int mode)] maxLocals)) t := ⟨((999999999999 : Int64) / st), rfl, k87⟩
  obtain ⟨hmq, hmq0⟩ := own_mq st mq hst1 hst2 hmq
  have k89 : ∀ t, Steps p.tables e below (s₁.setTop (mkF m 55 #[.val (.long sd), .second, .val (.long q0), .second, .val (.long rr), .second, .val (.int mode), .val (.long (999999999999 : Int64)), .second, .val (.long st), .second, .val (.long mq), .second, .val (.long ((q0 &&& (9223372036854775807 : Int64)) % (mq + (1 : Int64)))), .second, .unset, .unset, .unset, .unset, .unset, .unset, .unset, .unset, .unset, .unset] [])) t → Steps p.tables e below (s₁.setTop (entryFrame m #[(.long sd), (.long q0), (.long rr), (.int mode)] maxLocals)) t := fun t hk => k88 t (by
    show Steps p.tables e below (s₁.setTop (mkF m 43 #[.val (.long sd), .second, .val (.long q0), .second, .val (.long rr), .second, .val (.int mode), .val (.long (999999999999 : Int64)), .second, .val (.long st), .second, .val (.long mq), .second, .unset, .unset, .unset, .unset, .unset, .unset, .unset, .unset, .unset, .unset, .unset, .unset] [])) _
    refine XS.lloadN X0.here hx rfl (hb hby at_43) rfl ?_
    show Steps p.tables e below (s₁.setTop (mkF m 44 #[.val (.long sd), .second, .val (.long q0), .second, .val (.long rr), .second, .val (.int mode), .val (.long (999999999999 : Int64)), .second, .val (.long st), .second, .val (.long mq), .second, .unset, .unset, .unset, .unset, .unset, .unset, .unset, .unset, .unset, .unset, .unset, .unset] [(.long q0)])) _
    refine X0.ldc2Long hx hown (mvT hZ (hw _ (List.mem_of_getElem? (i := 1) rfl))) (g := (mkF m 44 #[.val (.long sd), .second, .val (.long q0), .second, .val (.long rr), .second, .val (.int mode), .val (.long (999999999999 : Int64)), .second, .val (.long st), .second, .val (.long mq), .second, .unset, .unset, .unset, .unset, .unset, .unset, .unset, .unset, .unset, .unset, .unset, .unset] [(.long q0)])) rfl (hb hby at_44) _ ?_
    show Steps p.tables e below (s₁.setTop (mkF m 47 #[.val (.long sd), .second, .val (.long q0), .second, .val (.long rr), .second, .val (.int mode), .val (.long (999999999999 : Int64)), .second, .val (.long st), .second, .val (.long mq), .second, .unset, .unset, .unset, .unset, .unset, .unset, .unset, .unset, .unset, .unset, .unset, .unset] [(.long (9223372036854775807 : Int64)), (.long q0)])) _
    refine XS.land X0.here hx rfl (hb hby at_47) rfl ?_
    show Steps p.tables e below (s₁.setTop (mkF m 48 #[.val (.long sd), .second, .val (.long q0), .second, .val (.long rr), .second, .val (.int mode), .val (.long (999999999999 : Int64)), .second, .val (.long st), .second, .val (.long mq), .second, .unset, .unset, .unset, .unset, .unset, .unset, .unset, .unset, .unset, .unset, .unset, .unset] [(.long (q0 &&& (9223372036854775807 : Int64)))])) _
    refine XS.lload X0.here hx rfl (hb hby at_48) rfl ?_
    show Steps p.tables e below (s₁.setTop (mkF m 50 #[.val (.long sd), .second, .val (.long q0), .second, .val (.long rr), .second, .val (.int mode), .val (.long (999999999999 : Int64)), .second, .val (.long st), .second, .val (.long mq), .second, .unset, .unset, .unset, .unset, .unset, .unset, .unset, .unset, .unset, .unset, .unset, .unset] [(.long mq), (.long (q0 &&& (9223372036854775807 : Int64)))])) _
    refine XS.lconst X0.here hx rfl (hb hby at_50) ?_
    show Steps p.tables e below (s₁.setTop (mkF m 51 #[.val (.long sd), .second, .val (.long q0), .second, .val (.long rr), .second, .val (.int mode), .val (.long (999999999999 : Int64)), .second, .val (.long st), .second, .val (.long mq), .second, .unset, .unset, .unset, .unset, .unset, .unset, .unset, .unset, .unset, .unset, .unset, .unset] [(.long (1 : Int64)), (.long mq), (.long (q0 &&& (9223372036854775807 : Int64)))])) _
    refine XS.ladd X0.here hx rfl (hb hby at_51) rfl ?_
    show Steps p.tables e below (s₁.setTop (mkF m 52 #[.val (.long sd), .second, .val (.long q0), .second, .val (.long rr), .second, .val (.int mode), .val (.long (999999999999 : Int64)), .second, .val (.long st), .second, .val (.long mq), .second, .unset, .unset, .unset, .unset, .unset, .unset, .unset, .unset, .unset, .unset, .unset, .unset] [(.long (mq + (1 : Int64))), (.long (q0 &&& (9223372036854775807 : Int64)))])) _
    refine own_lremM X0 hx rfl (hb hby at_52) rfl hmq0 ?_
    show Steps p.tables e below (s₁.setTop (mkF m 53 #[.val (.long sd), .second, .val (.long q0), .second, .val (.long rr), .second, .val (.int mode), .val (.long (999999999999 : Int64)), .second, .val (.long st), .second, .val (.long mq), .second, .unset, .unset, .unset, .unset, .unset, .unset, .unset, .unset, .unset, .unset, .unset, .unset] [(.long ((q0 &&& (9223372036854775807 : Int64)) % (mq + (1 : Int64))))])) _
    refine XS.lstore X0.here hx rfl (hb hby at_53) rfl (l' := #[.val (.long sd), .second, .val (.long q0), .second, .val (.long rr), .second, .val (.int mode), .val (.long (999999999999 : Int64)), .second, .val (.long st), .second, .val (.long mq), .second, .val (.long ((q0 &&& (9223372036854775807 : Int64)) % (mq + (1 : Int64)))), .second, .unset, .unset, .unset, .unset, .unset, .unset, .unset, .unset, .unset, .unset]) rfl ?_
    exact hk)
  obtain ⟨qq, hqq, k90⟩ : ∃ (qq : Int64), qq = ((q0 &&& (9223372036854775807 : Int64)) % (mq + (1 : Int64))) ∧ ∀ t, Steps p.tables e below (s₁.setTop (mkF m 55 #[.val (.long sd), .second, .val (.long q0), .second, .val (.long rr), .second, .val (.int mode), .val (.long (999999999999 : Int64)), .second, .val (.long st), .second, .val (.long mq), .second, .val (.long qq), .second, .unset, .unset, .unset, .unset, .unset, .unset, .unset, .unset, .unset, .unset] [])) t → Steps p.tables e below (s₁.setTop (entryFrame m #[(.long sd), (.long q0), (.long rr), (.int mode)] maxLocals)) t := ⟨((q0 &&& (9223372036854775807 : Int64)) % (mq + (1 : Int64))), rfl, k89⟩
  have k91 : ∀ t, Steps p.tables e below (s₁.setTop (mkF m 62 #[.val (.long sd), .second, .val (.long q0), .second, .val (.long rr), .second, .val (.int mode), .val (.long (999999999999 : Int64)), .second, .val (.long st), .second, .val (.long mq), .second, .val (.long qq), .second, .val (.long (qq * st)), .second, .unset, .unset, .unset, .unset, .unset, .unset, .unset, .unset] [])) t → Steps p.tables e below (s₁.setTop (entryFrame m #[(.long sd), (.long q0), (.long rr), (.int mode)] maxLocals)) t := fun t hk => k90 t (by
    show Steps p.tables e below (s₁.setTop (mkF m 55 #[.val (.long sd), .second, .val (.long q0), .second, .val (.long rr), .second, .val (.int mode), .val (.long (999999999999 : Int64)), .second, .val (.long st), .second, .val (.long mq), .second, .val (.long qq), .second, .unset, .unset, .unset, .unset, .unset, .unset, .unset, .unset, .unset, .unset] [])) _
    refine XS.lload X0.here hx rfl (hb hby at_55) rfl ?_
    show Steps p.tables e below (s₁.setTop (mkF m 57 #[.val (.long sd), .second, .val (.long q0), .second, .val (.long rr), .second, .val (.int mode), .val (.long (999999999999 : Int64)), .second, .val (.long st), .second, .val (.long mq), .second, .val (.long qq), .second, .unset, .unset, .unset, .unset, .unset, .unset, .unset, .unset, .unset, .unset] [(.long qq)])) _
    refine XS.lload X0.here hx rfl (hb hby at_57) rfl ?_
    show Steps p.tables e below (s₁.setTop (mkF m 59 #[.val (.long sd), .second, .val (.long q0), .second, .val (.long rr), .second, .val (.int mode), .val (.long (999999999999 : Int64)), .second, .val (.long st), .second, .val (.long mq), .second, .val (.long qq), .second, .unset, .unset, .unset, .unset, .unset, .unset, .unset, .unset, .unset, .unset] [(.long st), (.long qq)])) _
    refine XS.lmul X0.here hx rfl (hb hby at_59) rfl ?_
    show Steps p.tables e below (s₁.setTop (mkF m 60 #[.val (.long sd), .second, .val (.long q0), .second, .val (.long rr), .second, .val (.int mode), .val (.long (999999999999 : Int64)), .second, .val (.long st), .second, .val (.long mq), .second, .val (.long qq), .second, .unset, .unset, .unset, .unset, .unset, .unset, .unset, .unset, .unset, .unset] [(.long (qq * st))])) _
    refine XS.lstore X0.here hx rfl (hb hby at_60) rfl (l' := #[.val (.long sd), .second, .val (.long q0), .second, .val (.long rr), .second, .val (.int mode), .val (.long (999999999999 : Int64)), .second, .val (.long st), .second, .val (.long mq), .second, .val (.long qq), .second, .val (.long (qq * st)), .second, .unset, .unset, .unset, .unset, .unset, .unset, .unset, .unset]) rfl ?_
    exact hk)
  obtain ⟨ba, hba, k92⟩ : ∃ (ba : Int64), ba = (qq * st) ∧ ∀ t, Steps p.tables e below (s₁.setTop (mkF m 62 #[.val (.long sd), .second, .val (.long q0), .second, .val (.long rr), .second, .val (.int mode), .val (.long (999999999999 : Int64)), .second, .val (.long st), .second, .val (.long mq), .second, .val (.long qq), .second, .val (.long ba), .second, .unset, .unset, .unset, .unset, .unset, .unset, .unset, .unset] [])) t → Steps p.tables e below (s₁.setTop (entryFrame m #[(.long sd), (.long q0), (.long rr), (.int mode)] maxLocals)) t := ⟨(qq * st), rfl, k91⟩
  obtain ⟨hba0, hba1, hba2⟩ := own_base st mq q0 qq ba hst1 hst2 hmq hqq hba
  obtain ⟨_, _, ⟨T93, L93, k93, n93⟩, -, X93, ⟨Lc93, hQ93, l93, y93, z93⟩, st93⟩ := Jvm.LawKit.callS X0 hx (y := (⟨"java/lang/Math", "min", "(JJ)J"⟩ : MethodName)) hown (mvT hZ (hw _ (List.mem_of_getElem? (i := 2) rfl))) (mvT hZ (hw _ (List.mem_of_getElem? (i := 3) rfl))) (mvT hZ (hw _ (List.mem_of_getElem? (i := 4) rfl))) (mvT hZ (hw _ (List.mem_of_getElem? (i := 5) rfl))) (by decide) (backOf (W := 0) (rm1 l Z a0 hw [] (st - (1 : Int64)) ((999999999999 : Int64) - ba)  h0 n0 Z0 ) hZ (hw _ (List.mem_of_getElem? (i := 5) rfl)) (hw _ (List.mem_of_getElem? (i := 4) rfl)) (by decide) (by decide)) (g := (mkF m 71 #[.val (.long sd), .second, .val (.long q0), .second, .val (.long rr), .second, .val (.int mode), .val (.long (999999999999 : Int64)), .second, .val (.long st), .second, .val (.long mq), .second, .val (.long qq), .second, .val (.long ba), .second, .unset, .unset, .unset, .unset, .unset, .unset, .unset, .unset] [(.long ((999999999999 : Int64) - ba)), (.long (st - (1 : Int64)))])) rfl (by rw [hml]; rfl) (argsL := [(.long (st - (1 : Int64))), (.long ((999999999999 : Int64) - ba))]) (rest := []) (lenOf pd_2 rfl) rfl (by show 2 * 0 + _ ≤ _; exact Nat.le_of_eq rfl) (hb hby at_71) (fun _ _ => ⟨rfl, e0, (by decide : 0 + 0 ≤ _), (by decide : 0 + 0 ≤ _)⟩)
  dsimp only [Pt.U, Pt.locs, Pt.cells, Pt.slots] at X93 l93 y93 z93 st93 hQ93
  subst l93 y93 z93
  obtain ⟨rx, rfl, hrx, N93q, e93⟩ := hQ93
  have N93 := Fr.app N0 N93q
  have k94 : ∀ t, Steps p.tables e below (T93.setTop (mkF m 74 #[.val (.long sd), .second, .val (.long q0), .second, .val (.long rr), .second, .val (.int mode), .val (.long (999999999999 : Int64)), .second, .val (.long st), .second, .val (.long mq), .second, .val (.long qq), .second, .val (.long ba), .second, .unset, .unset, .unset, .unset, .unset, .unset, .unset, .unset] [(.long rx)])) t → Steps p.tables e below (s₁.setTop (entryFrame m #[(.long sd), (.long q0), (.long rr), (.int mode)] maxLocals)) t := fun t hk => k92 t (by
    show Steps p.tables e below (s₁.setTop (mkF m 62 #[.val (.long sd), .second, .val (.long q0), .second, .val (.long rr), .second, .val (.int mode), .val (.long (999999999999 : Int64)), .second, .val (.long st), .second, .val (.long mq), .second, .val (.long qq), .second, .val (.long ba), .second, .unset, .unset, .unset, .unset, .unset, .unset, .unset, .unset] [])) _
    refine XS.lload X0.here hx rfl (hb hby at_62) rfl ?_
    show Steps p.tables e below (s₁.setTop (mkF m 64 #[.val (.long sd), .second, .val (.long q0), .second, .val (.long rr), .second, .val (.int mode), .val (.long (999999999999 : Int64)), .second, .val (.long st), .second, .val (.long mq), .second, .val (.long qq), .second, .val (.long ba), .second, .unset, .unset, .unset, .unset, .unset, .unset, .unset, .unset] [(.long st)])) _
    refine XS.lconst X0.here hx rfl (hb hby at_64) ?_
    show Steps p.tables e below (s₁.setTop (mkF m 65 #[.val (.long sd), .second, .val (.long q0), .second, .val (.long rr), .second, .val (.int mode), .val (.long (999999999999 : Int64)), .second, .val (.long st), .second, .val (.long mq), .second, .val (.long qq), .second, .val (.long ba), .second, .unset, .unset, .unset, .unset, .unset, .unset, .unset, .unset] [(.long (1 : Int64)), (.long st)])) _
    refine XS.lsub X0.here hx rfl (hb hby at_65) rfl ?_
    show Steps p.tables e below (s₁.setTop (mkF m 66 #[.val (.long sd), .second, .val (.long q0), .second, .val (.long rr), .second, .val (.int mode), .val (.long (999999999999 : Int64)), .second, .val (.long st), .second, .val (.long mq), .second, .val (.long qq), .second, .val (.long ba), .second, .unset, .unset, .unset, .unset, .unset, .unset, .unset, .unset] [(.long (st - (1 : Int64)))])) _
    refine XS.lload X0.here hx rfl (hb hby at_66) rfl ?_
    show Steps p.tables e below (s₁.setTop (mkF m 68 #[.val (.long sd), .second, .val (.long q0), .second, .val (.long rr), .second, .val (.int mode), .val (.long (999999999999 : Int64)), .second, .val (.long st), .second, .val (.long mq), .second, .val (.long qq), .second, .val (.long ba), .second, .unset, .unset, .unset, .unset, .unset, .unset, .unset, .unset] [(.long (999999999999 : Int64)), (.long (st - (1 : Int64)))])) _
    refine XS.lload X0.here hx rfl (hb hby at_68) rfl ?_
    show Steps p.tables e below (s₁.setTop (mkF m 70 #[.val (.long sd), .second, .val (.long q0), .second, .val (.long rr), .second, .val (.int mode), .val (.long (999999999999 : Int64)), .second, .val (.long st), .second, .val (.long mq), .second, .val (.long qq), .second, .val (.long ba), .second, .unset, .unset, .unset, .unset, .unset, .unset, .unset, .unset] [(.long ba), (.long (999999999999 : Int64)), (.long (st - (1 : Int64)))])) _
    refine XS.lsub X0.here hx rfl (hb hby at_70) rfl ?_
    show Steps p.tables e below (s₁.setTop (mkF m 71 #[.val (.long sd), .second, .val (.long q0), .second, .val (.long rr), .second, .val (.int mode), .val (.long (999999999999 : Int64)), .second, .val (.long st), .second, .val (.long mq), .second, .val (.long qq), .second, .val (.long ba), .second, .unset, .unset, .unset, .unset, .unset, .unset, .unset, .unset] [(.long ((999999999999 : Int64) - ba)), (.long (st - (1 : Int64)))])) _
    refine st93 _ ?_
    exact hk)
  obtain ⟨hx0, hx1, hx2, hxz⟩ := own_rmax st ba rx hst1 hst2 hba0 hba1 hrx
  have k95 : ∀ t, Steps p.tables e below (T93.setTop (mkF m 89 #[.val (.long sd), .second, .val (.long q0), .second, .val (.long rr), .second, .val (.int mode), .val (.long (999999999999 : Int64)), .second, .val (.long st), .second, .val (.long mq), .second, .val (.long qq), .second, .val (.long ba), .second, .val (.long rx), .second, .val (.long ((rr &&& (9223372036854775807 : Int64)) % (rx + (1 : Int64)))), .second, .unset, .unset, .unset, .unset] [])) t → Steps p.tables e below (s₁.setTop (entryFrame m #[(.long sd), (.long q0), (.long rr), (.int mode)] maxLocals)) t := fun t hk => k94 t (by
    show Steps p.tables e below (T93.setTop (mkF m 74 #[.val (.long sd), .second, .val (.long q0), .second, .val (.long rr), .second, .val (.int mode), .val (.long (999999999999 : Int64)), .second, .val (.long st), .second, .val (.long mq), .second, .val (.long qq), .second, .val (.long ba), .second, .unset, .unset, .unset, .unset, .unset, .unset, .unset, .unset] [(.long rx)])) _
    refine XS.lstore X93.here hx rfl (hb hby at_74) rfl (l' := #[.val (.long sd), .second, .val (.long q0), .second, .val (.long rr), .second, .val (.int mode), .val (.long (999999999999 : Int64)), .second, .val (.long st), .second, .val (.long mq), .second, .val (.long qq), .second, .val (.long ba), .second, .val (.long rx), .second, .unset, .unset, .unset, .unset, .unset, .unset]) rfl ?_
    show Steps p.tables e below (T93.setTop (mkF m 76 #[.val (.long sd), .second, .val (.long q0), .second, .val (.long rr), .second, .val (.int mode), .val (.long (999999999999 : Int64)), .second, .val (.long st), .second, .val (.long mq), .second, .val (.long qq), .second, .val (.long ba), .second, .val (.long rx), .second, .unset, .unset, .unset, .unset, .unset, .unset] [])) _
    refine XS.lload X93.here hx rfl (hb hby at_76) rfl ?_
    show Steps p.tables e below (T93.setTop (mkF m 78 #[.val (.long sd), .second, .val (.long q0), .second, .val (.long rr), .second, .val (.int mode), .val (.long (999999999999 : Int64)), .second, .val (.long st), .second, .val (.long mq), .second, .val (.long qq), .second, .val (.long ba), .second, .val (.long rx), .second, .unset, .unset, .unset, .unset, .unset, .unset] [(.long rr)])) _
    refine X93.ldc2Long hx hown (mvT hZ (hw _ (List.mem_of_getElem? (i := 1) rfl))) (g := (mkF m 78 #[.val (.long sd), .second, .val (.long q0), .second, .val (.long rr), .second, .val (.int mode), .val (.long (999999999999 : Int64)), .second, .val (.long st), .second, .val (.long mq), .second, .val (.long qq), .second, .val (.long ba), .second, .val (.long rx), .second, .unset, .unset, .unset, .unset, .unset, .unset] [(.long rr)])) rfl (hb hby at_78) _ ?_
    show Steps p.tables e below (T93.setTop (mkF m 81 #[.val (.long sd), .second, .val (.long q0), .second, .val (.long rr), .second, .val (.int mode), .val (.long (999999999999 : Int64)), .second, .val (.long st), .second, .val (.long mq), .second, .val (.long qq), .second, .val (.long ba), .second, .val (.long rx), .second, .unset, .unset, .unset, .unset, .unset, .unset] [(.long (9223372036854775807 : Int64)), (.long rr)])) _
    refine XS.land X93.here hx rfl (hb hby at_81) rfl ?_
    show Steps p.tables e below (T93.setTop (mkF m 82 #[.val (.long sd), .second, .val (.long q0), .second, .val (.long rr), .second, .val (.int mode), .val (.long (999999999999 : Int64)), .second, .val (.long st), .second, .val (.long mq), .second, .val (.long qq), .second, .val (.long ba), .second, .val (.long rx), .second, .unset, .unset, .unset, .unset, .unset, .unset] [(.long (rr &&& (9223372036854775807 : Int64)))])) _
    refine XS.lload X93.here hx rfl (hb hby at_82) rfl ?_
    show Steps p.tables e below (T93.setTop (mkF m 84 #[.val (.long sd), .second, .val (.long q0), .second, .val (.long rr), .second, .val (.int mode), .val (.long (999999999999 : Int64)), .second, .val (.long st), .second, .val (.long mq), .second, .val (.long qq), .second, .val (.long ba), .second, .val (.long rx), .second, .unset, .unset, .unset, .unset, .unset, .unset] [(.long rx), (.long (rr &&& (9223372036854775807 : Int64)))])) _
    refine XS.lconst X93.here hx rfl (hb hby at_84) ?_
    show Steps p.tables e below (T93.setTop (mkF m 85 #[.val (.long sd), .second, .val (.long q0), .second, .val (.long rr), .second, .val (.int mode), .val (.long (999999999999 : Int64)), .second, .val (.long st), .second, .val (.long mq), .second, .val (.long qq), .second, .val (.long ba), .second, .val (.long rx), .second, .unset, .unset, .unset, .unset, .unset, .unset] [(.long (1 : Int64)), (.long rx), (.long (rr &&& (9223372036854775807 : Int64)))])) _
    refine XS.ladd X93.here hx rfl (hb hby at_85) rfl ?_
    show Steps p.tables e below (T93.setTop (mkF m 86 #[.val (.long sd), .second, .val (.long q0), .second, .val (.long rr), .second, .val (.int mode), .val (.long (999999999999 : Int64)), .second, .val (.long st), .second, .val (.long mq), .second, .val (.long qq), .second, .val (.long ba), .second, .val (.long rx), .second, .unset, .unset, .unset, .unset, .unset, .unset] [(.long (rx + (1 : Int64))), (.long (rr &&& (9223372036854775807 : Int64)))])) _
    refine own_lremM X93 hx rfl (hb hby at_86) rfl hxz ?_
    show Steps p.tables e below (T93.setTop (mkF m 87 #[.val (.long sd), .second, .val (.long q0), .second, .val (.long rr), .second, .val (.int mode), .val (.long (999999999999 : Int64)), .second, .val (.long st), .second, .val (.long mq), .second, .val (.long qq), .second, .val (.long ba), .second, .val (.long rx), .second, .unset, .unset, .unset, .unset, .unset, .unset] [(.long ((rr &&& (9223372036854775807 : Int64)) % (rx + (1 : Int64))))])) _
    refine XS.lstore X93.here hx rfl (hb hby at_87) rfl (l' := #[.val (.long sd), .second, .val (.long q0), .second, .val (.long rr), .second, .val (.int mode), .val (.long (999999999999 : Int64)), .second, .val (.long st), .second, .val (.long mq), .second, .val (.long qq), .second, .val (.long ba), .second, .val (.long rx), .second, .val (.long ((rr &&& (9223372036854775807 : Int64)) % (rx + (1 : Int64)))), .second, .unset, .unset, .unset, .unset]) rfl ?_
    exact hk)
  obtain ⟨ra, hra, k96⟩ : ∃ (ra : Int64), ra = ((rr &&& (9223372036854775807 : Int64)) % (rx + (1 : Int64))) ∧ ∀ t, Steps p.tables e below (T93.setTop (mkF m 89 #[.val (.long sd), .second, .val (.long q0), .second, .val (.long rr), .second, .val (.int mode), .val (.long (999999999999 : Int64)), .second, .val (.long st), .second, .val (.long mq), .second, .val (.long qq), .second, .val (.long ba), .second, .val (.long rx), .second, .val (.long ra), .second, .unset, .unset, .unset, .unset] [])) t → Steps p.tables e below (s₁.setTop (entryFrame m #[(.long sd), (.long q0), (.long rr), (.int mode)] maxLocals)) t := ⟨((rr &&& (9223372036854775807 : Int64)) % (rx + (1 : Int64))), rfl, k95⟩
  have k97 : ∀ t, Steps p.tables e below (T93.setTop (mkF m 93 #[.val (.long sd), .second, .val (.long q0), .second, .val (.long rr), .second, .val (.int mode), .val (.long (999999999999 : Int64)), .second, .val (.long st), .second, .val (.long mq), .second, .val (.long qq), .second, .val (.long ba), .second, .val (.long rx), .second, .val (.long ra), .second, .unset, .unset, .unset, .unset] [(.int (mode &&& (2 : Int32)))])) t → Steps p.tables e below (s₁.setTop (entryFrame m #[(.long sd), (.long q0), (.long rr), (.int mode)] maxLocals)) t := fun t hk => k96 t (by
    show Steps p.tables e below (T93.setTop (mkF m 89 #[.val (.long sd), .second, .val (.long q0), .second, .val (.long rr), .second, .val (.int mode), .val (.long (999999999999 : Int64)), .second, .val (.long st), .second, .val (.long mq), .second, .val (.long qq), .second, .val (.long ba), .second, .val (.long rx), .second, .val (.long ra), .second, .unset, .unset, .unset, .unset] [])) _
    refine XS.iload X93.here hx rfl (hb hby at_89) rfl ?_
    show Steps p.tables e below (T93.setTop (mkF m 91 #[.val (.long sd), .second, .val (.long q0), .second, .val (.long rr), .second, .val (.int mode), .val (.long (999999999999 : Int64)), .second, .val (.long st), .second, .val (.long mq), .second, .val (.long qq), .second, .val (.long ba), .second, .val (.long rx), .second, .val (.long ra), .second, .unset, .unset, .unset, .unset] [(.int mode)])) _
    refine XS.iconst X93.here hx rfl (hb hby at_91) ?_
    show Steps p.tables e below (T93.setTop (mkF m 92 #[.val (.long sd), .second, .val (.long q0), .second, .val (.long rr), .second, .val (.int mode), .val (.long (999999999999 : Int64)), .second, .val (.long st), .second, .val (.long mq), .second, .val (.long qq), .second, .val (.long ba), .second, .val (.long rx), .second, .val (.long ra), .second, .unset, .unset, .unset, .unset] [(.int (2 : Int32)), (.int mode)])) _
    refine XS.iand X93.here hx rfl (hb hby at_92) rfl ?_
    exact hk)
  obtain ⟨rb, hrb, k98⟩ : ∃ (rb : Int64), (rb = (if (mode &&& (2 : Int32)) = (0 : Int32) then ra else (0 : Int64))) ∧ ∀ t, Steps p.tables e below (T93.setTop (mkF m 99 #[.val (.long sd), .second, .val (.long q0), .second, .val (.long rr), .second, .val (.int mode), .val (.long (999999999999 : Int64)), .second, .val (.long st), .second, .val (.long mq), .second, .val (.long qq), .second, .val (.long ba), .second, .val (.long rx), .second, .val (.long rb), .second, .unset, .unset, .unset, .unset] [])) t → Steps p.tables e below (s₁.setTop (entryFrame m #[(.long sd), (.long q0), (.long rr), (.int mode)] maxLocals)) t := by
    by_cases hc93 : (mode &&& (2 : Int32)) = (0 : Int32)
    ·
      refine ⟨ra, ((if_pos hc93).trans rfl).symm, fun t hk => k97 t ?_⟩
      show Steps p.tables e below (T93.setTop (mkF m 93 #[.val (.long sd), .second, .val (.long q0), .second, .val (.long rr), .second, .val (.int mode), .val (.long (999999999999 : Int64)), .second, .val (.long st), .second, .val (.long mq), .second, .val (.long qq), .second, .val (.long ba), .second, .val (.long rx), .second, .val (.long ra), .second, .unset, .unset, .unset, .unset] [(.int (mode &&& (2 : Int32)))])) _
      refine XS.ifYes X93.here hx rfl (pc0 := 93) (pc' := 99) rfl (hb hby at_93) rfl ((if0 _ _).trans (teq hc93).1) (by decide) (by decide) ?_
      exact hk
    ·
      refine ⟨(0 : Int64), ((if_neg hc93).trans rfl).symm, fun t hk => k97 t ?_⟩
      show Steps p.tables e below (T93.setTop (mkF m 93 #[.val (.long sd), .second, .val (.long q0), .second, .val (.long rr), .second, .val (.int mode), .val (.long (999999999999 : Int64)), .second, .val (.long st), .second, .val (.long mq), .second, .val (.long qq), .second, .val (.long ba), .second, .val (.long rx), .second, .val (.long ra), .second, .unset, .unset, .unset, .unset] [(.int (mode &&& (2 : Int32)))])) _
      refine XS.ifNo X93.here hx rfl (hb hby at_93) rfl ((if0 _ _).trans (feq hc93).1) ?_
      show Steps p.tables e below (T93.setTop (mkF m 96 #[.val (.long sd), .second, .val (.long q0), .second, .val (.long rr), .second, .val (.int mode), .val (.long (999999999999 : Int64)), .second, .val (.long st), .second, .val (.long mq), .second, .val (.long qq), .second, .val (.long ba), .second, .val (.long rx), .second, .val (.long ra), .second, .unset, .unset, .unset, .unset] [])) _
      refine XS.lconst X93.here hx rfl (hb hby at_96) ?_
      show Steps p.tables e below (T93.setTop (mkF m 97 #[.val (.long sd), .second, .val (.long q0), .second, .val (.long rr), .second, .val (.int mode), .val (.long (999999999999 : Int64)), .second, .val (.long st), .second, .val (.long mq), .second, .val (.long qq), .second, .val (.long ba), .second, .val (.long rx), .second, .val (.long ra), .second, .unset, .unset, .unset, .unset] [(.long (0 : Int64))])) _
      refine XS.lstore X93.here hx rfl (hb hby at_97) rfl (l' := #[.val (.long sd), .second, .val (.long q0), .second, .val (.long rr), .second, .val (.int mode), .val (.long (999999999999 : Int64)), .second, .val (.long st), .second, .val (.long mq), .second, .val (.long qq), .second, .val (.long ba), .second, .val (.long rx), .second, .val (.long (0 : Int64)), .second, .unset, .unset, .unset, .unset]) rfl ?_
      exact hk
  have k99 : ∀ t, Steps p.tables e below (T93.setTop (mkF m 103 #[.val (.long sd), .second, .val (.long q0), .second, .val (.long rr), .second, .val (.int mode), .val (.long (999999999999 : Int64)), .second, .val (.long st), .second, .val (.long mq), .second, .val (.long qq), .second, .val (.long ba), .second, .val (.long rx), .second, .val (.long rb), .second, .unset, .unset, .unset, .unset] [(.int (mode &&& (4 : Int32)))])) t → Steps p.tables e below (s₁.setTop (entryFrame m #[(.long sd), (.long q0), (.long rr), (.int mode)] maxLocals)) t := fun t hk => k98 t (by
    show Steps p.tables e below (T93.setTop (mkF m 99 #[.val (.long sd), .second, .val (.long q0), .second, .val (.long rr), .second, .val (.int mode), .val (.long (999999999999 : Int64)), .second, .val (.long st), .second, .val (.long mq), .second, .val (.long qq), .second, .val (.long ba), .second, .val (.long rx), .second, .val (.long rb), .second, .unset, .unset, .unset, .unset] [])) _
    refine XS.iload X93.here hx rfl (hb hby at_99) rfl ?_
    show Steps p.tables e below (T93.setTop (mkF m 101 #[.val (.long sd), .second, .val (.long q0), .second, .val (.long rr), .second, .val (.int mode), .val (.long (999999999999 : Int64)), .second, .val (.long st), .second, .val (.long mq), .second, .val (.long qq), .second, .val (.long ba), .second, .val (.long rx), .second, .val (.long rb), .second, .unset, .unset, .unset, .unset] [(.int mode)])) _
    refine XS.iconst X93.here hx rfl (hb hby at_101) ?_
    show Steps p.tables e below (T93.setTop (mkF m 102 #[.val (.long sd), .second, .val (.long q0), .second, .val (.long rr), .second, .val (.int mode), .val (.long (999999999999 : Int64)), .second, .val (.long st), .second, .val (.long mq), .second, .val (.long qq), .second, .val (.long ba), .second, .val (.long rx), .second, .val (.long rb), .second, .unset, .unset, .unset, .unset] [(.int (4 : Int32)), (.int mode)])) _
    refine XS.iand X93.here hx rfl (hb hby at_102) rfl ?_
    exact hk)
  obtain ⟨rc, hrc, k100⟩ : ∃ (rc : Int64), (rc = (if (mode &&& (4 : Int32)) = (0 : Int32) then rb else rx)) ∧ ∀ t, Steps p.tables e below (T93.setTop (mkF m 110 #[.val (.long sd), .second, .val (.long q0), .second, .val (.long rr), .second, .val (.int mode), .val (.long (999999999999 : Int64)), .second, .val (.long st), .second, .val (.long mq), .second, .val (.long qq), .second, .val (.long ba), .second, .val (.long rx), .second, .val (.long rc), .second, .unset, .unset, .unset, .unset] [])) t → Steps p.tables e below (s₁.setTop (entryFrame m #[(.long sd), (.long q0), (.long rr), (.int mode)] maxLocals)) t := by
    by_cases hc103 : (mode &&& (4 : Int32)) = (0 : Int32)
    ·
      refine ⟨rb, ((if_pos hc103).trans rfl).symm, fun t hk => k99 t ?_⟩
      show Steps p.tables e below (T93.setTop (mkF m 103 #[.val (.long sd), .second, .val (.long q0), .second, .val (.long rr), .second, .val (.int mode), .val (.long (999999999999 : Int64)), .second, .val (.long st), .second, .val (.long mq), .second, .val (.long qq), .second, .val (.long ba), .second, .val (.long rx), .second, .val (.long rb), .second, .unset, .unset, .unset, .unset] [(.int (mode &&& (4 : Int32)))])) _
      refine XS.ifYes X93.here hx rfl (pc0 := 103) (pc' := 110) rfl (hb hby at_103) rfl ((if0 _ _).trans (teq hc103).1) (by decide) (by decide) ?_
      exact hk
    ·
      refine ⟨rx, ((if_neg hc103).trans rfl).symm, fun t hk => k99 t ?_⟩
      show Steps p.tables e below (T93.setTop (mkF m 103 #[.val (.long sd), .second, .val (.long q0), .second, .val (.long rr), .second, .val (.int mode), .val (.long (999999999999 : Int64)), .second, .val (.long st), .second, .val (.long mq), .second, .val (.long qq), .second, .val (.long ba), .second, .val (.long rx), .second, .val (.long rb), .second, .unset, .unset, .unset, .unset] [(.int (mode &&& (4 : Int32)))])) _
      refine XS.ifNo X93.here hx rfl (hb hby at_103) rfl ((if0 _ _).trans (feq hc103).1) ?_
      show Steps p.tables e below (T93.setTop (mkF m 106 #[.val (.long sd), .second, .val (.long q0), .second, .val (.long rr), .second, .val (.int mode), .val (.long (999999999999 : Int64)), .second, .val (.long st), .second, .val (.long mq), .second, .val (.long qq), .second, .val (.long ba), .second, .val (.long rx), .second, .val (.long rb), .second, .unset, .unset, .unset, .unset] [])) _
      refine XS.lload X93.here hx rfl (hb hby at_106) rfl ?_
      show Steps p.tables e below (T93.setTop (mkF m 108 #[.val (.long sd), .second, .val (.long q0), .second, .val (.long rr), .second, .val (.int mode), .val (.long (999999999999 : Int64)), .second, .val (.long st), .second, .val (.long mq), .second, .val (.long qq), .second, .val (.long ba), .second, .val (.long rx), .second, .val (.long rb), .second, .unset, .unset, .unset, .unset] [(.long rx)])) _
      refine XS.lstore X93.here hx rfl (hb hby at_108) rfl (l' := #[.val (.long sd), .second, .val (.long q0), .second, .val (.long rr), .second, .val (.int mode), .val (.long (999999999999 : Int64)), .second, .val (.long st), .second, .val (.long mq), .second, .val (.long qq), .second, .val (.long ba), .second, .val (.long rx), .second, .val (.long rx), .second, .unset, .unset, .unset, .unset]) rfl ?_
      exact hk
  have k101 : ∀ t, Steps p.tables e below (T93.setTop (mkF m 117 #[.val (.long sd), .second, .val (.long q0), .second, .val (.long rr), .second, .val (.int mode), .val (.long (999999999999 : Int64)), .second, .val (.long st), .second, .val (.long mq), .second, .val (.long qq), .second, .val (.long ba), .second, .val (.long rx), .second, .val (.long rc), .second, .val (.long (ba + rc)), .second, .unset, .unset] [])) t → Steps p.tables e below (s₁.setTop (entryFrame m #[(.long sd), (.long q0), (.long rr), (.int mode)] maxLocals)) t := fun t hk => k100 t (by
    show Steps p.tables e below (T93.setTop (mkF m 110 #[.val (.long sd), .second, .val (.long q0), .second, .val (.long rr), .second, .val (.int mode), .val (.long (999999999999 : Int64)), .second, .val (.long st), .second, .val (.long mq), .second, .val (.long qq), .second, .val (.long ba), .second, .val (.long rx), .second, .val (.long rc), .second, .unset, .unset, .unset, .unset] [])) _
    refine XS.lload X93.here hx rfl (hb hby at_110) rfl ?_
    show Steps p.tables e below (T93.setTop (mkF m 112 #[.val (.long sd), .second, .val (.long q0), .second, .val (.long rr), .second, .val (.int mode), .val (.long (999999999999 : Int64)), .second, .val (.long st), .second, .val (.long mq), .second, .val (.long qq), .second, .val (.long ba), .second, .val (.long rx), .second, .val (.long rc), .second, .unset, .unset, .unset, .unset] [(.long ba)])) _
    refine XS.lload X93.here hx rfl (hb hby at_112) rfl ?_
    show Steps p.tables e below (T93.setTop (mkF m 114 #[.val (.long sd), .second, .val (.long q0), .second, .val (.long rr), .second, .val (.int mode), .val (.long (999999999999 : Int64)), .second, .val (.long st), .second, .val (.long mq), .second, .val (.long qq), .second, .val (.long ba), .second, .val (.long rx), .second, .val (.long rc), .second, .unset, .unset, .unset, .unset] [(.long rc), (.long ba)])) _
    refine XS.ladd X93.here hx rfl (hb hby at_114) rfl ?_
    show Steps p.tables e below (T93.setTop (mkF m 115 #[.val (.long sd), .second, .val (.long q0), .second, .val (.long rr), .second, .val (.int mode), .val (.long (999999999999 : Int64)), .second, .val (.long st), .second, .val (.long mq), .second, .val (.long qq), .second, .val (.long ba), .second, .val (.long rx), .second, .val (.long rc), .second, .unset, .unset, .unset, .unset] [(.long (ba + rc))])) _
    refine XS.lstore X93.here hx rfl (hb hby at_115) rfl (l' := #[.val (.long sd), .second, .val (.long q0), .second, .val (.long rr), .second, .val (.int mode), .val (.long (999999999999 : Int64)), .second, .val (.long st), .second, .val (.long mq), .second, .val (.long qq), .second, .val (.long ba), .second, .val (.long rx), .second, .val (.long rc), .second, .val (.long (ba + rc)), .second, .unset, .unset]) rfl ?_
    exact hk)
  obtain ⟨un, hun, k102⟩ : ∃ (un : Int64), un = (ba + rc) ∧ ∀ t, Steps p.tables e below (T93.setTop (mkF m 117 #[.val (.long sd), .second, .val (.long q0), .second, .val (.long rr), .second, .val (.int mode), .val (.long (999999999999 : Int64)), .second, .val (.long st), .second, .val (.long mq), .second, .val (.long qq), .second, .val (.long ba), .second, .val (.long rx), .second, .val (.long rc), .second, .val (.long un), .second, .unset, .unset] [])) t → Steps p.tables e below (s₁.setTop (entryFrame m #[(.long sd), (.long q0), (.long rr), (.int mode)] maxLocals)) t := ⟨(ba + rc), rfl, k101⟩
  obtain ⟨hb0, hb1, hc0, hc1, hz⟩ := own_units st ba rx rr ra rb rc un mode hst1 hst2 hba0 hba1 hba2 hx0 hx1 hx2 hra hrb hrc hun
  obtain ⟨T103, h103, X103, e103, E103, A103, D103, -, st103⟩ := newO X93 hx hZ hown (hw _ (List.mem_of_getElem? (i := 6) rfl)) (hw _ (List.mem_of_getElem? (i := 7) rfl)) (hw _ (List.mem_of_getElem? (i := 8) rfl)) e93 (g := (mkF m 117 #[.val (.long sd), .second, .val (.long q0), .second, .val (.long rr), .second, .val (.int mode), .val (.long (999999999999 : Int64)), .second, .val (.long st), .second, .val (.long mq), .second, .val (.long qq), .second, .val (.long ba), .second, .val (.long rx), .second, .val (.long rc), .second, .val (.long un), .second, .unset, .unset] [])) rfl (hb hby at_117) (by decide) (by decide)
  obtain ⟨b103, g103⟩ : ∃ z, z = h0.size := ⟨_, rfl⟩
  have g104 : n0 ≤ b103 := g103 ▸ Z0
  rw [← g103] at A103 D103 st103
  have Z105 : n0 ≤ h103.size := Nat.le_trans Z0 E103.1
  have F106 : Fld Z h103 b103 "com/example/bidwell/bidwell/market/Price" "units" "J" (.long (0 : Int64)) := D103 (Or.inr (hw _ (List.mem_of_getElem? (i := 22) rfl))) (ty := .long) (by decide)
  obtain ⟨_, _, ⟨T107, L107, k107, n107⟩, -, X107, ⟨Lc107, hQ107, l107, y107, z107⟩, st107⟩ := X103.specialBack hx (y := (⟨"com/example/bidwell/bidwell/market/Price", "<init>", "(J)V"⟩ : MethodName)) rfl hown (mvT hZ (hw _ (List.mem_of_getElem? (i := 9) rfl))) (mvT hZ (hw _ (List.mem_of_getElem? (i := 10) rfl))) (mvT hZ (hw _ (List.mem_of_getElem? (i := 11) rfl))) (by decide) (backOf (W := 1) (rm2 l Z a0 hw [] b103 un  h103 n0 Z105 F106 A103 g104 hb0 hb1) hZ (hw _ (List.mem_of_getElem? (i := 11) rfl)) (hw _ (List.mem_of_getElem? (i := 8) rfl)) (by decide) (by decide)) (g := (mkF m 123 #[.val (.long sd), .second, .val (.long q0), .second, .val (.long rr), .second, .val (.int mode), .val (.long (999999999999 : Int64)), .second, .val (.long st), .second, .val (.long mq), .second, .val (.long qq), .second, .val (.long ba), .second, .val (.long rx), .second, .val (.long rc), .second, .val (.long un), .second, .unset, .unset] [(.long un), (.ref b103), (.ref b103)])) rfl (by rw [hml]; rfl) (Steps.refl _) (a := b103) (argsL := [(.long un)]) (rest := [(.ref b103)]) (lenOf pd_3 rfl) rfl (by show 2 * 0 + _ ≤ _; exact Nat.le_of_eq rfl) (hb hby at_123) (fun _ _ => ⟨rfl, e103, (by decide : 1 + 0 ≤ _), (by decide : 1 + 0 ≤ _)⟩)
  dsimp only [Pt.U, Pt.locs, Pt.cells, Pt.slots] at X107 l107 y107 z107 st107 hQ107
  subst l107 y107 z107
  obtain ⟨rfl, N107q, K107, Ex107, Fu107⟩ := hQ107
  have N107 := Fr.app N93 N107q
  have E108 := A103.keep K107
  have Z109 : n0 ≤ T107.heap.size := Nat.le_trans Z105 K107.1
  obtain ⟨T110, h110, X110, e110, E110, A110, D110, -, st110⟩ := newO X107 hx hZ hown (hw _ (List.mem_of_getElem? (i := 6) rfl)) (hw _ (List.mem_of_getElem? (i := 7) rfl)) (hw _ (List.mem_of_getElem? (i := 8) rfl)) rfl (g := (mkF m 128 #[.val (.long sd), .second, .val (.long q0), .second, .val (.long rr), .second, .val (.int mode), .val (.long (999999999999 : Int64)), .second, .val (.long st), .second, .val (.long mq), .second, .val (.long qq), .second, .val (.long ba), .second, .val (.long rx), .second, .val (.long rc), .second, .val (.long un), .second, .val (.ref b103), .unset] [])) rfl (hb hby at_128) (by decide) (by decide)
  obtain ⟨b110, g110⟩ : ∃ z, z = T107.heap.size := ⟨_, rfl⟩
  have ne111 : b103 ≠ b110 := fun q => absurd E108.lt (by rw [q, g110]; exact Nat.lt_irrefl _)
  have g112 : n0 ≤ b110 := g110 ▸ Z109
  rw [← g110] at A110 D110 st110
  have F113 := Fu107.ext E110
  have E114 := E108.ext E110
  have Z115 : n0 ≤ h110.size := Nat.le_trans Z109 E110.1
  have F116 : Fld Z h110 b110 "com/example/bidwell/bidwell/market/Price" "units" "J" (.long (0 : Int64)) := D110 (Or.inr (hw _ (List.mem_of_getElem? (i := 22) rfl))) (ty := .long) (by decide)
  obtain ⟨_, _, ⟨T117, L117, k117, n117⟩, -, X117, ⟨Lc117, hQ117, l117, y117, z117⟩, st117⟩ := X110.specialBack hx (y := (⟨"com/example/bidwell/bidwell/market/Price", "<init>", "(J)V"⟩ : MethodName)) rfl hown (mvT hZ (hw _ (List.mem_of_getElem? (i := 9) rfl))) (mvT hZ (hw _ (List.mem_of_getElem? (i := 10) rfl))) (mvT hZ (hw _ (List.mem_of_getElem? (i := 11) rfl))) (by decide) (backOf (W := 1) (rm2 l Z a0 hw [] b110 st  h110 n0 Z115 F116 A110 g112 hc0 hc1) hZ (hw _ (List.mem_of_getElem? (i := 11) rfl)) (hw _ (List.mem_of_getElem? (i := 8) rfl)) (by decide) (by decide)) (g := (mkF m 134 #[.val (.long sd), .second, .val (.long q0), .second, .val (.long rr), .second, .val (.int mode), .val (.long (999999999999 : Int64)), .second, .val (.long st), .second, .val (.long mq), .second, .val (.long qq), .second, .val (.long ba), .second, .val (.long rx), .second, .val (.long rc), .second, .val (.long un), .second, .val (.ref b103), .unset] [(.long st), (.ref b110), (.ref b110)])) rfl (by rw [hml]; rfl) (Steps.refl _) (a := b110) (argsL := [(.long st)]) (rest := [(.ref b110)]) (lenOf pd_3 rfl) rfl (by show 2 * 0 + _ ≤ _; exact Nat.le_of_eq rfl) (hb hby at_134) (fun _ _ => ⟨rfl, e110, (by decide : 2 + 0 ≤ _), (by decide : 2 + 0 ≤ _)⟩)
  dsimp only [Pt.U, Pt.locs, Pt.cells, Pt.slots] at X117 l117 y117 z117 st117 hQ117
  subst l117 y117 z117
  obtain ⟨rfl, N117q, K117, Ex117, Fu117⟩ := hQ117
  have N117 := Fr.app N107 N117q
  have F118 := F113.keep K117 (ninS ne111 nin0)
  have E119 := E114.keep K117
  have E120 := A110.keep K117
  have Z121 : n0 ≤ T117.heap.size := Nat.le_trans Z115 K117.1
  obtain ⟨cq122, kq122, q122a, q122b, q122c⟩ := isOf hZ rfl E119
  obtain ⟨_, _, ⟨T122, L122, k122, n122⟩, -, X122, ⟨Lc122, hQ122, l122, y122, z122⟩, st122⟩ := X117.virtualBack hx (y := (⟨"com/example/bidwell/bidwell/market/Price", "isMultipleOf", "(Lcom/example/bidwell/bidwell/market/Price;)Z"⟩ : MethodName)) (z := (⟨"com/example/bidwell/bidwell/market/Price", "isMultipleOf", "(Lcom/example/bidwell/bidwell/market/Price;)Z"⟩ : MethodName)) hown (mvT hZ (hw _ (List.mem_of_getElem? (i := 23) rfl))) (mvT hZ (hw _ (List.mem_of_getElem? (i := 24) rfl))) (notFace_of_selects (args := #[]) (mvT hZ (hw _ (List.mem_of_getElem? (i := 26) rfl)))) (mvT hZ (hw _ (List.mem_of_getElem? (i := 26) rfl))) (mvT hZ (hw _ (List.mem_of_getElem? (i := 25) rfl))) (by decide) (backOf (W := 0) (rm5 l Z a0 hw [] b103 b110 un st T117.heap n0 Z121 F118 Fu117 hst0) hZ (hw _ (List.mem_of_getElem? (i := 27) rfl)) (hw _ (List.mem_of_getElem? (i := 8) rfl)) (by decide) (by decide)) q122a q122c (g := (mkF m 143 #[.val (.long sd), .second, .val (.long q0), .second, .val (.long rr), .second, .val (.int mode), .val (.long (999999999999 : Int64)), .second, .val (.long st), .second, .val (.long mq), .second, .val (.long qq), .second, .val (.long ba), .second, .val (.long rx), .second, .val (.long rc), .second, .val (.long un), .second, .val (.ref b103), .val (.ref b110)] [(.ref b110), (.ref b103)])) rfl (by rw [hml]; rfl) (Steps.refl _) (argsL := [(.ref b110)]) (rest := []) (lenOf pd_4 rfl) rfl (by show 2 * 0 + _ ≤ _; exact Nat.le_of_eq rfl) (hb hby at_143) (fun _ _ => ⟨rfl, rfl, (by decide : 2 + 0 ≤ _), (by decide : 2 + 0 ≤ _)⟩)
  dsimp only [Pt.U, Pt.locs, Pt.cells, Pt.slots] at X122 l122 y122 z122 st122 hQ122
  subst l122 y122 z122
  obtain ⟨r1, rfl, hr1, N122q, e122⟩ := hQ122
  have N122 := Fr.app N117 N122q
  have k123 : ∀ t, Steps p.tables e below (T122.setTop (mkF m 150 #[.val (.long sd), .second, .val (.long q0), .second, .val (.long rr), .second, .val (.int mode), .val (.long (999999999999 : Int64)), .second, .val (.long st), .second, .val (.long mq), .second, .val (.long qq), .second, .val (.long ba), .second, .val (.long rx), .second, .val (.long rc), .second, .val (.long un), .second, .val (.ref b103), .val (.ref b110)] [(.int (lcmpW rc (0 : Int64))), (.int r1)])) t → Steps p.tables e below (s₁.setTop (entryFrame m #[(.long sd), (.long q0), (.long rr), (.int mode)] maxLocals)) t := fun t hk => k102 t (by
    show Steps p.tables e below (T93.setTop (mkF m 117 #[.val (.long sd), .second, .val (.long q0), .second, .val (.long rr), .second, .val (.int mode), .val (.long (999999999999 : Int64)), .second, .val (.long st), .second, .val (.long mq), .second, .val (.long qq), .second, .val (.long ba), .second, .val (.long rx), .second, .val (.long rc), .second, .val (.long un), .second, .unset, .unset] [])) _
    refine st103 _ ?_
    show Steps p.tables e below (T103.setTop (mkF m 120 #[.val (.long sd), .second, .val (.long q0), .second, .val (.long rr), .second, .val (.int mode), .val (.long (999999999999 : Int64)), .second, .val (.long st), .second, .val (.long mq), .second, .val (.long qq), .second, .val (.long ba), .second, .val (.long rx), .second, .val (.long rc), .second, .val (.long un), .second, .unset, .unset] [(.ref b103)])) _
    refine XS.dup X103.here hx rfl (hb hby at_120) rfl rfl ?_
    show Steps p.tables e below (T103.setTop (mkF m 121 #[.val (.long sd), .second, .val (.long q0), .second, .val (.long rr), .second, .val (.int mode), .val (.long (999999999999 : Int64)), .second, .val (.long st), .second, .val (.long mq), .second, .val (.long qq), .second, .val (.long ba), .second, .val (.long rx), .second, .val (.long rc), .second, .val (.long un), .second, .unset, .unset] [(.ref b103), (.ref b103)])) _
    refine XS.lload X103.here hx rfl (hb hby at_121) rfl ?_
    show Steps p.tables e below (T103.setTop (mkF m 123 #[.val (.long sd), .second, .val (.long q0), .second, .val (.long rr), .second, .val (.int mode), .val (.long (999999999999 : Int64)), .second, .val (.long st), .second, .val (.long mq), .second, .val (.long qq), .second, .val (.long ba), .second, .val (.long rx), .second, .val (.long rc), .second, .val (.long un), .second, .unset, .unset] [(.long un), (.ref b103), (.ref b103)])) _
    refine st107.trans ?_
    show Steps p.tables e below (T107.setTop (mkF m 126 #[.val (.long sd), .second, .val (.long q0), .second, .val (.long rr), .second, .val (.int mode), .val (.long (999999999999 : Int64)), .second, .val (.long st), .second, .val (.long mq), .second, .val (.long qq), .second, .val (.long ba), .second, .val (.long rx), .second, .val (.long rc), .second, .val (.long un), .second, .unset, .unset] [(.ref b103)])) _
    refine XS.astore X107.here hx rfl (hb hby at_126) rfl rfl (l' := #[.val (.long sd), .second, .val (.long q0), .second, .val (.long rr), .second, .val (.int mode), .val (.long (999999999999 : Int64)), .second, .val (.long st), .second, .val (.long mq), .second, .val (.long qq), .second, .val (.long ba), .second, .val (.long rx), .second, .val (.long rc), .second, .val (.long un), .second, .val (.ref b103), .unset]) rfl ?_
    show Steps p.tables e below (T107.setTop (mkF m 128 #[.val (.long sd), .second, .val (.long q0), .second, .val (.long rr), .second, .val (.int mode), .val (.long (999999999999 : Int64)), .second, .val (.long st), .second, .val (.long mq), .second, .val (.long qq), .second, .val (.long ba), .second, .val (.long rx), .second, .val (.long rc), .second, .val (.long un), .second, .val (.ref b103), .unset] [])) _
    refine st110 _ ?_
    show Steps p.tables e below (T110.setTop (mkF m 131 #[.val (.long sd), .second, .val (.long q0), .second, .val (.long rr), .second, .val (.int mode), .val (.long (999999999999 : Int64)), .second, .val (.long st), .second, .val (.long mq), .second, .val (.long qq), .second, .val (.long ba), .second, .val (.long rx), .second, .val (.long rc), .second, .val (.long un), .second, .val (.ref b103), .unset] [(.ref b110)])) _
    refine XS.dup X110.here hx rfl (hb hby at_131) rfl rfl ?_
    show Steps p.tables e below (T110.setTop (mkF m 132 #[.val (.long sd), .second, .val (.long q0), .second, .val (.long rr), .second, .val (.int mode), .val (.long (999999999999 : Int64)), .second, .val (.long st), .second, .val (.long mq), .second, .val (.long qq), .second, .val (.long ba), .second, .val (.long rx), .second, .val (.long rc), .second, .val (.long un), .second, .val (.ref b103), .unset] [(.ref b110), (.ref b110)])) _
    refine XS.lload X110.here hx rfl (hb hby at_132) rfl ?_
    show Steps p.tables e below (T110.setTop (mkF m 134 #[.val (.long sd), .second, .val (.long q0), .second, .val (.long rr), .second, .val (.int mode), .val (.long (999999999999 : Int64)), .second, .val (.long st), .second, .val (.long mq), .second, .val (.long qq), .second, .val (.long ba), .second, .val (.long rx), .second, .val (.long rc), .second, .val (.long un), .second, .val (.ref b103), .unset] [(.long st), (.ref b110), (.ref b110)])) _
    refine st117.trans ?_
    show Steps p.tables e below (T117.setTop (mkF m 137 #[.val (.long sd), .second, .val (.long q0), .second, .val (.long rr), .second, .val (.int mode), .val (.long (999999999999 : Int64)), .second, .val (.long st), .second, .val (.long mq), .second, .val (.long qq), .second, .val (.long ba), .second, .val (.long rx), .second, .val (.long rc), .second, .val (.long un), .second, .val (.ref b103), .unset] [(.ref b110)])) _
    refine XS.astore X117.here hx rfl (hb hby at_137) rfl rfl (l' := #[.val (.long sd), .second, .val (.long q0), .second, .val (.long rr), .second, .val (.int mode), .val (.long (999999999999 : Int64)), .second, .val (.long st), .second, .val (.long mq), .second, .val (.long qq), .second, .val (.long ba), .second, .val (.long rx), .second, .val (.long rc), .second, .val (.long un), .second, .val (.ref b103), .val (.ref b110)]) rfl ?_
    show Steps p.tables e below (T117.setTop (mkF m 139 #[.val (.long sd), .second, .val (.long q0), .second, .val (.long rr), .second, .val (.int mode), .val (.long (999999999999 : Int64)), .second, .val (.long st), .second, .val (.long mq), .second, .val (.long qq), .second, .val (.long ba), .second, .val (.long rx), .second, .val (.long rc), .second, .val (.long un), .second, .val (.ref b103), .val (.ref b110)] [])) _
    refine XS.aload X117.here hx rfl (hb hby at_139) rfl rfl ?_
    show Steps p.tables e below (T117.setTop (mkF m 141 #[.val (.long sd), .second, .val (.long q0), .second, .val (.long rr), .second, .val (.int mode), .val (.long (999999999999 : Int64)), .second, .val (.long st), .second, .val (.long mq), .second, .val (.long qq), .second, .val (.long ba), .second, .val (.long rx), .second, .val (.long rc), .second, .val (.long un), .second, .val (.ref b103), .val (.ref b110)] [(.ref b103)])) _
    refine XS.aload X117.here hx rfl (hb hby at_141) rfl rfl ?_
    show Steps p.tables e below (T117.setTop (mkF m 143 #[.val (.long sd), .second, .val (.long q0), .second, .val (.long rr), .second, .val (.int mode), .val (.long (999999999999 : Int64)), .second, .val (.long st), .second, .val (.long mq), .second, .val (.long qq), .second, .val (.long ba), .second, .val (.long rx), .second, .val (.long rc), .second, .val (.long un), .second, .val (.ref b103), .val (.ref b110)] [(.ref b110), (.ref b103)])) _
    refine st122.trans ?_
    show Steps p.tables e below (T122.setTop (mkF m 146 #[.val (.long sd), .second, .val (.long q0), .second, .val (.long rr), .second, .val (.int mode), .val (.long (999999999999 : Int64)), .second, .val (.long st), .second, .val (.long mq), .second, .val (.long qq), .second, .val (.long ba), .second, .val (.long rx), .second, .val (.long rc), .second, .val (.long un), .second, .val (.ref b103), .val (.ref b110)] [(.int r1)])) _
    refine XS.lload X122.here hx rfl (hb hby at_146) rfl ?_
    show Steps p.tables e below (T122.setTop (mkF m 148 #[.val (.long sd), .second, .val (.long q0), .second, .val (.long rr), .second, .val (.int mode), .val (.long (999999999999 : Int64)), .second, .val (.long st), .second, .val (.long mq), .second, .val (.long qq), .second, .val (.long ba), .second, .val (.long rx), .second, .val (.long rc), .second, .val (.long un), .second, .val (.ref b103), .val (.ref b110)] [(.long rc), (.int r1)])) _
    refine XS.lconst X122.here hx rfl (hb hby at_148) ?_
    show Steps p.tables e below (T122.setTop (mkF m 149 #[.val (.long sd), .second, .val (.long q0), .second, .val (.long rr), .second, .val (.int mode), .val (.long (999999999999 : Int64)), .second, .val (.long st), .second, .val (.long mq), .second, .val (.long qq), .second, .val (.long ba), .second, .val (.long rx), .second, .val (.long rc), .second, .val (.long un), .second, .val (.ref b103), .val (.ref b110)] [(.long (0 : Int64)), (.long rc), (.int r1)])) _
    refine XS.lcmp X122.here hx rfl (hb hby at_149) rfl ?_
    exact hk)
  obtain ⟨ex, hex, k124⟩ : ∃ (ex : Int32), (ex = (if rc = (0 : Int64) then (1 : Int32) else (0 : Int32))) ∧ ∀ t, Steps p.tables e below (T122.setTop (mkF m 158 #[.val (.long sd), .second, .val (.long q0), .second, .val (.long rr), .second, .val (.int mode), .val (.long (999999999999 : Int64)), .second, .val (.long st), .second, .val (.long mq), .second, .val (.long qq), .second, .val (.long ba), .second, .val (.long rx), .second, .val (.long rc), .second, .val (.long un), .second, .val (.ref b103), .val (.ref b110)] [(.int ex), (.int r1)])) t → Steps p.tables e below (s₁.setTop (entryFrame m #[(.long sd), (.long q0), (.long rr), (.int mode)] maxLocals)) t := by
    by_cases hc150 : rc = (0 : Int64)
    ·
      refine ⟨(1 : Int32), ((if_pos hc150).trans rfl).symm, fun t hk => k123 t ?_⟩
      show Steps p.tables e below (T122.setTop (mkF m 150 #[.val (.long sd), .second, .val (.long q0), .second, .val (.long rr), .second, .val (.int mode), .val (.long (999999999999 : Int64)), .second, .val (.long st), .second, .val (.long mq), .second, .val (.long qq), .second, .val (.long ba), .second, .val (.long rx), .second, .val (.long rc), .second, .val (.long un), .second, .val (.ref b103), .val (.ref b110)] [(.int (lcmpW rc (0 : Int64))), (.int r1)])) _
      refine XS.ifNo X122.here hx rfl (hb hby at_150) rfl ((if0 _ _).trans (teq ((lw_eq _ _).mpr hc150)).2) ?_
      show Steps p.tables e below (T122.setTop (mkF m 153 #[.val (.long sd), .second, .val (.long q0), .second, .val (.long rr), .second, .val (.int mode), .val (.long (999999999999 : Int64)), .second, .val (.long st), .second, .val (.long mq), .second, .val (.long qq), .second, .val (.long ba), .second, .val (.long rx), .second, .val (.long rc), .second, .val (.long un), .second, .val (.ref b103), .val (.ref b110)] [(.int r1)])) _
      refine XS.iconst X122.here hx rfl (hb hby at_153) ?_
      show Steps p.tables e below (T122.setTop (mkF m 154 #[.val (.long sd), .second, .val (.long q0), .second, .val (.long rr), .second, .val (.int mode), .val (.long (999999999999 : Int64)), .second, .val (.long st), .second, .val (.long mq), .second, .val (.long qq), .second, .val (.long ba), .second, .val (.long rx), .second, .val (.long rc), .second, .val (.long un), .second, .val (.ref b103), .val (.ref b110)] [(.int (1 : Int32)), (.int r1)])) _
      refine XS.goto X122.here hx rfl (pc0 := 154) (pc' := 158) rfl (hb hby at_154) (by decide) (by decide) ?_
      exact hk
    ·
      refine ⟨(0 : Int32), ((if_neg hc150).trans rfl).symm, fun t hk => k123 t ?_⟩
      show Steps p.tables e below (T122.setTop (mkF m 150 #[.val (.long sd), .second, .val (.long q0), .second, .val (.long rr), .second, .val (.int mode), .val (.long (999999999999 : Int64)), .second, .val (.long st), .second, .val (.long mq), .second, .val (.long qq), .second, .val (.long ba), .second, .val (.long rx), .second, .val (.long rc), .second, .val (.long un), .second, .val (.ref b103), .val (.ref b110)] [(.int (lcmpW rc (0 : Int64))), (.int r1)])) _
      refine XS.ifYes X122.here hx rfl (pc0 := 150) (pc' := 157) rfl (hb hby at_150) rfl ((if0 _ _).trans (feq (fun q => hc150 ((lw_eq _ _).mp q))).2) (by decide) (by decide) ?_
      show Steps p.tables e below (T122.setTop (mkF m 157 #[.val (.long sd), .second, .val (.long q0), .second, .val (.long rr), .second, .val (.int mode), .val (.long (999999999999 : Int64)), .second, .val (.long st), .second, .val (.long mq), .second, .val (.long qq), .second, .val (.long ba), .second, .val (.long rx), .second, .val (.long rc), .second, .val (.long un), .second, .val (.ref b103), .val (.ref b110)] [(.int r1)])) _
      refine XS.iconst X122.here hx rfl (hb hby at_157) ?_
      exact hk
  have hfin : r1 = ex := by rw [hr1, hex]; by_cases h : rc = 0 <;> simp [hz, h]
  have k125 : ∀ t, Steps p.tables e below (T122.setTop (mkF m 166 #[.val (.long sd), .second, .val (.long q0), .second, .val (.long rr), .second, .val (.int mode), .val (.long (999999999999 : Int64)), .second, .val (.long st), .second, .val (.long mq), .second, .val (.long qq), .second, .val (.long ba), .second, .val (.long rx), .second, .val (.long rc), .second, .val (.long un), .second, .val (.ref b103), .val (.ref b110)] [(.int (1 : Int32))])) t → Steps p.tables e below (s₁.setTop (entryFrame m #[(.long sd), (.long q0), (.long rr), (.int mode)] maxLocals)) t := fun t hk => k124 t (by
    show Steps p.tables e below (T122.setTop (mkF m 158 #[.val (.long sd), .second, .val (.long q0), .second, .val (.long rr), .second, .val (.int mode), .val (.long (999999999999 : Int64)), .second, .val (.long st), .second, .val (.long mq), .second, .val (.long qq), .second, .val (.long ba), .second, .val (.long rx), .second, .val (.long rc), .second, .val (.long un), .second, .val (.ref b103), .val (.ref b110)] [(.int ex), (.int r1)])) _
    refine XS.icmpNo X122.here hx rfl (hb hby at_158) rfl (teq hfin).2 ?_
    show Steps p.tables e below (T122.setTop (mkF m 161 #[.val (.long sd), .second, .val (.long q0), .second, .val (.long rr), .second, .val (.int mode), .val (.long (999999999999 : Int64)), .second, .val (.long st), .second, .val (.long mq), .second, .val (.long qq), .second, .val (.long ba), .second, .val (.long rx), .second, .val (.long rc), .second, .val (.long un), .second, .val (.ref b103), .val (.ref b110)] [])) _
    refine XS.iconst X122.here hx rfl (hb hby at_161) ?_
    show Steps p.tables e below (T122.setTop (mkF m 162 #[.val (.long sd), .second, .val (.long q0), .second, .val (.long rr), .second, .val (.int mode), .val (.long (999999999999 : Int64)), .second, .val (.long st), .second, .val (.long mq), .second, .val (.long qq), .second, .val (.long ba), .second, .val (.long rx), .second, .val (.long rc), .second, .val (.long un), .second, .val (.ref b103), .val (.ref b110)] [(.int (1 : Int32))])) _
    refine XS.goto X122.here hx rfl (pc0 := 162) (pc' := 166) rfl (hb hby at_162) (by decide) (by decide) ?_
    exact hk)
  obtain ⟨fs, hr, hrun, hended, hW, hsame⟩ := X122.leave (v := some (.int (nar .boolean (1 : Int32)))) (fun h => by rw [Bd.returns] at h; cases h)
  refine ⟨_, _, k125 _ ?_, hrun, hended, _, _, rfl, ?_, ⟨_, rfl⟩, hW, hsame.mono (by decide) (by decide)⟩
  · show Steps p.tables e below (T122.setTop (mkF m 166 #[.val (.long sd), .second, .val (.long q0), .second, .val (.long rr), .second, .val (.int mode), .val (.long (999999999999 : Int64)), .second, .val (.long st), .second, .val (.long mq), .second, .val (.long qq), .second, .val (.long ba), .second, .val (.long rx), .second, .val (.long rc), .second, .val (.long un), .second, .val (.ref b103), .val (.ref b110)] [(.int (1 : Int32))])) _
    exact retN X122 hx (t := .boolean) Bd.returns (by simp) (hb hby at_166) hr
  · show Q0 Z sd q0 rr mode h0 n0 _ T122.heap _
    rw [e122]
    exact ⟨rfl, N122⟩
set_option maxRecDepth 65536 in
set_option maxHeartbeats 40000000 in
theorem comes_1 {Post : Tables → Env → Array Value → State → Outcome → State → Prop} (hpost : ∀ tb e args s v u, (limb_1_1.after args s (.returned v) u = true ∧ limb_1_2.after args s (.returned v) u = true ∧ True) → FrameEnd s (.returned v) u (Jvm.fieldLocs frame_1_writes args s ++ Jvm.arrayLocs frame_1_arrays args s ++ Jvm.staticLocs frame_1_statics s) 16 128 → Post tb e args s (.returned v) u) :
    ArmFor flags0 classFile x code maxLocals ret World_1 tables_1 room_1 Calls_1 rest_1 Pre_1 Post := by
  intro l hfl _ _ p e ha hc hk s m args below hf hA hF happ hP
  obtain ⟨hcalls, hrest, hpre⟩ := hP
  obtain ⟨-, -, -, hnamed, -, -, -, hat⟩ := (Spec.applies_iff hf).mp happ
  obtain ⟨hg, hn⟩ := and_e (Cond.before_iff.mp (show (Jvm.Cond.and given_1 narrow_1).before args s = true from hpre))
  obtain ⟨hcnt, hg0⟩ := and_e hg
  obtain ⟨hv0, hg1⟩ := and_e hg0
  obtain ⟨hv1, hg2⟩ := and_e hg1
  obtain ⟨hv2, hg3⟩ := and_e hg2
  have hv3 := hg3
  obtain ⟨w0, w1, w2, w3, rfl⟩ : ∃ w0 w1 w2 w3 : Value, args = #[w0, w1, w2, w3] := by
    have hs : args.size = 4 := by simpa [Cond.value, given_1] using hcnt
    obtain ⟨L⟩ := args
    match L, hs with
    | [w0, w1, w2, w3], _ => exact ⟨w0, w1, w2, w3, rfl⟩
  have hw := fun d (hd : d ∈ tables_1) => atoms_spec (ws := Jvm.Cond.code x code maxLocals ret :: tables_1) hat d (List.mem_cons_of_mem _ hd)
  obtain ⟨i0, ei0⟩ := isL_v hv0
  obtain rfl : w0 = (.long i0) := Option.some.inj ei0
  obtain ⟨i1, ei1⟩ := isL_v hv1
  obtain rfl : w1 = (.long i1) := Option.some.inj ei1
  obtain ⟨i2, ei2⟩ := isL_v hv2
  obtain rfl : w2 = (.long i2) := Option.some.inj ei2
  obtain ⟨i3, ei3⟩ := is_v hv3
  obtain rfl : w3 = (.int i3) := Option.some.inj ei3
  obtain ⟨n, o, h1, h2, h3, _, L, rfl, ⟨rfl, N⟩, hq⟩ := rm0 l s _ hw tables_1 i0 i1 i2 i3 s.heap s.heap.size (Nat.le_refl _)  p e ha hc hk s m _ below hf ((Spec.applies_iff_loose hf).mp happ).1 ⟨rfl, State.Warmed39.refl s, rfl⟩ trivial
  refine ⟨n, _, h1, h2, h3, hpost _ _ _ _ _ _ ⟨Cond.after_iff.mpr rfl, Cond.after_iff.mpr (eq_i res_at (Term.int_eval (1)) rfl), trivial⟩ ⟨hq.1, hq.2.1, (hq.2.2.sift fun y hy => Or.inr (N y hy)).mono (by decide) (by decide)⟩⟩
theorem main_1_1 : Claimed_1_1 := comes_1 fun _ _ _ _ _ _ h hF => ⟨h.1, hF⟩
theorem main_1_2 : Claimed_1_2 := comes_1 fun _ _ _ _ _ _ h hF => ⟨h.2.1, hF⟩
end Jvm.Pilot.@@N@@
namespace Jvm.Pilot.@@N@@
open Jvm Jvm.ClassFile Sem Op Lib Jvm.Free Jvm.Stand Jvm.Pilot.@@N@@.Jvm.D
/-! MADE BY PROGRAM (witnessworld.py) out of the Statement's table words and the real class files: 12 classes; the members and pool entries that the words name. The judged class is class 1, her method 1. -/
namespace start1
open Jvm.ClassFile
def u (s : String) : CpInfo := .utf8 (stringToUtf16 s)
/-- a pool by its gaps: so many unusable entries, then the entry; so many at the end -/
def gap : Nat → List CpInfo → List CpInfo
  | 0, r => r
  | n + 1, r => .unusable :: gap n r
def poolList (es : List (Nat × CpInfo)) (last : Nat) : List CpInfo := es.foldr (fun e r => gap e.1 (e.2 :: r)) (gap last [])
def pool (es : List (Nat × CpInfo)) (last : Nat) : Array CpInfo := ⟨poolList es last⟩
def fileOf (pool : Array CpInfo) (this : Nat) (attrs : Array Attribute := #[]) (ms : Array MethodInfo := #[]) (fl : Nat := 33) (sup : Nat := 0) (ifs : Array Nat := #[]) (fds : Array FieldInfo := #[]) : ClassFile where
  minorVersion := 0
  majorVersion := 65
  constantPool := pool
  accessFlags := fl
  thisClass := this
  superClass := sup
  interfaces := ifs
  fields := fds
  methods := ms
  attributes := attrs
def plain (name : String) (sup : Option ClassId) : Class where
  name := name
  kind := .ordinary
  loader := none
  accessFlags := 33
  super := sup
  interfaces := #[]
  cf := none
  fields := #[]
  methods := #[]
  instanceTypes := #[]
  staticTypes := #[]
  resolved := #[]
  callSites := []
  init := .initialized
  statics := none
  mirror := none

def pool0 : Array CpInfo := pool [(5, u "<init>"), (0, u "()V"), (1, .class_ 10), (1, u "java/lang/Object")] 113

def k0c0 : Code := { maxStack := 0, maxLocals := 1, code := object_method_1_code, exceptionTable := #[], attributes := #[] }
def k0m0 : Method := { name := "<init>", desc := "()V", sig := { parameters := [], returnType := none }, accessFlags := 1, code := some k0c0 }
/-- java/lang/Object -/
def k0 : Class := { plain "java/lang/Object" none with
  accessFlags := 33
  interfaces := #[]
  cf := some (fileOf pool0 8 #[] #[{ accessFlags := 1, nameIndex := 5, descriptorIndex := 6, attributes := #[] }] 33 0 #[] #[])
  fields := #[]
  methods := #[k0m0]
  instanceTypes := #[]
  staticTypes := #[]
  resolved := Array.replicate 124 none
  statics := none }

def pool1 : Array CpInfo := pool [(2, .class_ 4), (1, u "java/lang/Object"), (0, u "<init>"), (0, u "()V"), (0, .class_ 8), (0, u "com/example/bidwell/bidwell/market/Price"), (0, .long 999999999999), (1, .long 4095), (3, .long 9223372036854775807), (1, .methodref 18 19), (0, .class_ 20), (0, .nameAndType 21 22), (0, u "java/lang/Math"), (0, u "min"), (0, u "(JJ)J"), (0, .methodref 7 24), (0, .nameAndType 5 25), (0, u "(J)V"), (0, .methodref 7 27), (0, .nameAndType 28 29), (0, u "isMultipleOf"), (0, u "(Lcom/example/bidwell/bidwell/market/Price;)Z"), (0, .class_ 31), (0, u "com/example/bidwell/bidwell/market/PriceIsMultipleOfPinLaw"), (2, u "law"), (0, u "(JJJI)Z")] 3

def k1m0 : Method := { name := "<init>", desc := "()V", sig := { parameters := [], returnType := none }, accessFlags := 1, code := none }
def k1c1 : Code := { maxStack := 6, maxLocals := 25, code := code, exceptionTable := #[], attributes := #[] }
def k1m1 : Method := { name := "law", desc := "(JJJI)Z", sig := { parameters := [.long, .long, .long, .int], returnType := some .boolean }, accessFlags := 9, code := some k1c1 }
/-- com/example/bidwell/bidwell/market/PriceIsMultipleOfPinLaw -/
def k1 : Class := { plain "com/example/bidwell/bidwell/market/PriceIsMultipleOfPinLaw" (some 0) with
  accessFlags := 49
  interfaces := #[]
  cf := some (fileOf pool1 30 #[] #[{ accessFlags := 1, nameIndex := 5, descriptorIndex := 6, attributes := #[] }, { accessFlags := 9, nameIndex := 34, descriptorIndex := 35, attributes := #[] }] 49 2 #[] #[])
  fields := #[]
  methods := #[k1m0, k1m1]
  instanceTypes := #[]
  staticTypes := #[]
  resolved := Array.replicate 39 none
  statics := none }

def pool2 : Array CpInfo := pool [(1, .class_ 2), (0, u "java/lang/Math"), (1, .class_ 6), (1, u "java/lang/Object"), (0, u "<init>"), (0, u "()V"), (89, .class_ 100), (1, u "java/lang/Math$RandomNumberGeneratorHolder"), (20, u "(JJ)J"), (50, u "negativeZeroFloatBits"), (0, u "J"), (2, u "negativeZeroDoubleBits"), (24, u "min"), (43, u "$assertionsDisabled"), (0, u "Z"), (91, u "twoToTheDoubleScaleDown"), (0, u "D"), (4, u "twoToTheDoubleScaleUp"), (9, u "E"), (3, u "PI"), (2, u "TAU"), (2, u "DEGREES_TO_RADIANS"), (0, u "RADIANS_TO_DEGREES")] 94

def k2m0 : Method := { name := "<init>", desc := "()V", sig := { parameters := [], returnType := none }, accessFlags := 2, code := none }
def k2c1 : Code := { maxStack := 4, maxLocals := 4, code := jdk_29_method_70_code, exceptionTable := #[], attributes := #[] }
def k2m1 : Method := { name := "min", desc := "(JJ)J", sig := { parameters := [.long, .long], returnType := some .long }, accessFlags := 9, code := some k2c1 }
/-- java/lang/Math -/
def k2 : Class := { plain "java/lang/Math" (some 0) with
  accessFlags := 49
  interfaces := #[]
  cf := some (fileOf pool2 1 #[.nestMembers #[98]] #[{ accessFlags := 2, nameIndex := 7, descriptorIndex := 8, attributes := #[] }, { accessFlags := 9, nameIndex := 201, descriptorIndex := 121, attributes := #[] }] 49 4 #[] #[{ accessFlags := 25, nameIndex := 354, descriptorIndex := 339, attributes := #[] }, { accessFlags := 25, nameIndex := 358, descriptorIndex := 339, attributes := #[] }, { accessFlags := 25, nameIndex := 361, descriptorIndex := 339, attributes := #[] }, { accessFlags := 26, nameIndex := 364, descriptorIndex := 339, attributes := #[] }, { accessFlags := 26, nameIndex := 365, descriptorIndex := 339, attributes := #[] }, { accessFlags := 26, nameIndex := 172, descriptorIndex := 173, attributes := #[] }, { accessFlags := 26, nameIndex := 176, descriptorIndex := 173, attributes := #[] }, { accessFlags := 8, nameIndex := 344, descriptorIndex := 339, attributes := #[] }, { accessFlags := 8, nameIndex := 338, descriptorIndex := 339, attributes := #[] }, { accessFlags := 4120, nameIndex := 245, descriptorIndex := 246, attributes := #[] }])
  fields := #[{ name := "E", type := .double, accessFlags := 25, slot := 0, constantValue := 0 }, { name := "PI", type := .double, accessFlags := 25, slot := 1, constantValue := 0 }, { name := "TAU", type := .double, accessFlags := 25, slot := 2, constantValue := 0 }, { name := "DEGREES_TO_RADIANS", type := .double, accessFlags := 26, slot := 3, constantValue := 0 }, { name := "RADIANS_TO_DEGREES", type := .double, accessFlags := 26, slot := 4, constantValue := 0 }, { name := "negativeZeroFloatBits", type := .long, accessFlags := 26, slot := 5, constantValue := 0 }, { name := "negativeZeroDoubleBits", type := .long, accessFlags := 26, slot := 6, constantValue := 0 }, { name := "twoToTheDoubleScaleUp", type := .double, accessFlags := 8, slot := 7, constantValue := 0 }, { name := "twoToTheDoubleScaleDown", type := .double, accessFlags := 8, slot := 8, constantValue := 0 }, { name := "$assertionsDisabled", type := .boolean, accessFlags := 4120, slot := 9, constantValue := 0 }]
  methods := #[k2m0, k2m1]
  instanceTypes := #[]
  staticTypes := #[.double, .double, .double, .double, .double, .long, .long, .double, .double, .boolean]
  resolved := Array.replicate 460 none
  statics := none }

def pool3 : Array CpInfo := pool [(1, .methodref 2 3), (0, .class_ 4), (0, .nameAndType 5 6), (0, u "java/lang/Object"), (0, u "<init>"), (0, u "()V"), (0, .class_ 8), (0, u "java/lang/Record")] 13

def k3c0 : Code := { maxStack := 1, maxLocals := 1, code := jdk_30_method_1_code, exceptionTable := #[], attributes := #[] }
def k3m0 : Method := { name := "<init>", desc := "()V", sig := { parameters := [], returnType := none }, accessFlags := 4, code := some k3c0 }
/-- java/lang/Record -/
def k3 : Class := { plain "java/lang/Record" (some 0) with
  accessFlags := 1057
  interfaces := #[]
  cf := some (fileOf pool3 7 #[] #[{ accessFlags := 4, nameIndex := 5, descriptorIndex := 6, attributes := #[] }] 1057 2 #[] #[])
  fields := #[]
  methods := #[k3m0]
  instanceTypes := #[]
  staticTypes := #[]
  resolved := Array.replicate 22 none
  statics := none }

def pool4 : Array CpInfo := pool [(1, .class_ 2), (0, u "java/lang/Comparable"), (0, .class_ 4), (0, u "java/lang/Object")] 7

/-- java/lang/Comparable -/
def k4 : Class := { plain "java/lang/Comparable" (some 0) with
  accessFlags := 1537
  interfaces := #[]
  cf := some (fileOf pool4 1 #[] #[] 1537 3 #[] #[])
  fields := #[]
  methods := #[]
  instanceTypes := #[]
  staticTypes := #[]
  resolved := Array.replicate 12 none
  statics := none }

def pool5 : Array CpInfo := pool [(1, .class_ 2), (0, u "com/example/bidwell/bidwell/market/Price"), (0, .methodref 4 5), (0, .class_ 6), (0, .nameAndType 7 8), (0, u "java/lang/Record"), (0, u "<init>"), (0, u "()V"), (0, .long 999999999999), (10, .fieldref 1 21), (0, .nameAndType 22 23), (0, u "units"), (0, u "J"), (2, u "DECIMAL"), (0, u "Ljava/util/regex/Pattern;"), (41, u "(J)V"), (51, .class_ 122), (0, u "java/lang/Comparable"), (0, u "UNITS_PER_DOLLAR"), (1, u "UNITS_PER_CENT"), (0, u "MAX_UNITS"), (9, u "isMultipleOf"), (0, u "(Lcom/example/bidwell/bidwell/market/Price;)Z")] 40

def k5c0 : Code := { maxStack := 4, maxLocals := 3, code := prog_40_method_1_code, exceptionTable := #[], attributes := #[] }
def k5m0 : Method := { name := "<init>", desc := "(J)V", sig := { parameters := [.long], returnType := none }, accessFlags := 1, code := some k5c0 }
def k5c1 : Code := { maxStack := 4, maxLocals := 2, code := prog_40_method_4_code, exceptionTable := #[], attributes := #[] }
def k5m1 : Method := { name := "isMultipleOf", desc := "(Lcom/example/bidwell/bidwell/market/Price;)Z", sig := { parameters := [(.object "com/example/bidwell/bidwell/market/Price")], returnType := some .boolean }, accessFlags := 1, code := some k5c1 }
/-- com/example/bidwell/bidwell/market/Price -/
def k5 : Class := { plain "com/example/bidwell/bidwell/market/Price" (some 3) with
  accessFlags := 49
  interfaces := #[4]
  cf := some (fileOf pool5 1 #[] #[{ accessFlags := 1, nameIndex := 7, descriptorIndex := 69, attributes := #[] }, { accessFlags := 1, nameIndex := 136, descriptorIndex := 137, attributes := #[] }] 49 4 #[121] #[{ accessFlags := 18, nameIndex := 22, descriptorIndex := 23, attributes := #[] }, { accessFlags := 25, nameIndex := 123, descriptorIndex := 23, attributes := #[] }, { accessFlags := 25, nameIndex := 125, descriptorIndex := 23, attributes := #[] }, { accessFlags := 25, nameIndex := 126, descriptorIndex := 23, attributes := #[] }, { accessFlags := 26, nameIndex := 26, descriptorIndex := 27, attributes := #[] }])
  fields := #[{ name := "units", type := .long, accessFlags := 18, slot := 0, constantValue := 0 }, { name := "UNITS_PER_DOLLAR", type := .long, accessFlags := 25, slot := 0, constantValue := 0 }, { name := "UNITS_PER_CENT", type := .long, accessFlags := 25, slot := 1, constantValue := 0 }, { name := "MAX_UNITS", type := .long, accessFlags := 25, slot := 2, constantValue := 0 }, { name := "DECIMAL", type := (.object "java/util/regex/Pattern"), accessFlags := 26, slot := 3, constantValue := 0 }]
  methods := #[k5m0, k5m1]
  instanceTypes := #[.long]
  staticTypes := #[.long, .long, .long, (.object "java/util/regex/Pattern")]
  resolved := Array.replicate 178 none
  statics := none }

def pool6 : Array CpInfo := pool [(1, u "java/lang/Cloneable"), (0, .class_ 1), (0, u "java/lang/Object"), (0, .class_ 3)] 3

/-- java/lang/Cloneable -/
def k6 : Class := { plain "java/lang/Cloneable" (some 0) with
  accessFlags := 1537
  interfaces := #[]
  cf := some (fileOf pool6 2 #[] #[] 1537 4 #[] #[])
  fields := #[]
  methods := #[]
  instanceTypes := #[]
  staticTypes := #[]
  resolved := Array.replicate 8 none
  statics := none }

def pool7 : Array CpInfo := pool [(1, u "java/io/Serializable"), (0, .class_ 1), (0, u "java/lang/Object"), (0, .class_ 3)] 3

/-- java/io/Serializable -/
def k7 : Class := { plain "java/io/Serializable" (some 0) with
  accessFlags := 1537
  interfaces := #[]
  cf := some (fileOf pool7 2 #[] #[] 1537 4 #[] #[])
  fields := #[]
  methods := #[]
  instanceTypes := #[]
  staticTypes := #[]
  resolved := Array.replicate 8 none
  statics := none }

/-- the primitive byte -/
def k8 : Class := { plain "byte" none with kind := .primitive 'B', accessFlags := 0x411 }
/-- [B -/
def k9 : Class := { plain "[B" (some 0) with kind := .array 8 .byte, interfaces := #[6, 7], accessFlags := 1041 }

/-- the primitive int -/
def k10 : Class := { plain "int" none with kind := .primitive 'I', accessFlags := 0x411 }
/-- [I -/
def k11 : Class := { plain "[I" (some 0) with kind := .array 10 .int, interfaces := #[6, 7], accessFlags := 1041 }

def heap : Heap := #[]
def classes : Array Class := #[k0, k1, k2, k3, k4, k5, k6, k7, k8, k9, k10, k11]
def interned : List (Array UInt16 × Addr) := []
def slotsUsed : Nat := 0
def theMethod : MethodId := ⟨1, 1⟩
def args0 : Array Value := #[.long 5, .long 7, .long 3, .int 0]
def aboutOver (below : List Frame) : State where
  vm := { classes := classes, interned := interned.toArray }
  heap := heap
  slotsUsed := slotsUsed
  threads := #[{ frames := .invoking theMethod args0 :: below }]
def below0 : List Frame := [.native { method := ⟨0, 0⟩, args := #[] }]
def about1 : State := aboutOver below0
def p0 : Program := .bare "" "" ""
def e0 : Env := launch0.env 0 0 0
theorem w_frames : about1.frames = Frame.invoking theMethod args0 :: below0 := rfl
set_option maxRecDepth 65536 in
theorem w_args : argsFit about1.vm theMethod args0 = true := by decide +kernel
set_option maxRecDepth 65536 in
theorem w_heap : heapFits about1 = true := by decide +kernel
set_option maxRecDepth 65536 in
theorem w_runnable : about1.curStatus? = some .runnable := by decide +kernel
set_option maxRecDepth 65536 in
theorem w_alone : about1.alone = true := by decide +kernel
set_option maxRecDepth 65536 in
theorem w_named : about1.methodNamed? x = some theMethod := by decide +kernel
set_option maxRecDepth 65536 in
theorem w_hears : about1.hears theMethod below0 = true := by decide +kernel
set_option maxRecDepth 65536 in
theorem w_ripe : about1.ripe theMethod args0 below0 = true := by decide +kernel
theorem w_running : about1.status = .running := rfl
set_option maxRecDepth 65536 in
theorem w_room : about1.hasRoom e0.platform room_1 = true :=
  launch0.hasRoom_least _ room_1 (by decide +kernel) (by decide +kernel) (by decide +kernel) (by decide +kernel) (by decide +kernel) (by decide +kernel)
theorem allAtoms_all (ts : List Jvm.Cond) (a : Array Jvm.Value) (st : Jvm.State) : (allAtoms ts).before a st = ts.all (fun c => c.before a st) := by
  induction ts with
  | nil => rfl
  | cons c t ih =>
    show (Jvm.Cond.and c (allAtoms t)).before a st = _
    rw [Jvm.Cond.before_and, ih, List.all_cons]
def words1 : List Jvm.Cond := Jvm.Cond.code x code maxLocals ret :: tables_1
/-- a 'code' word, met by the world's own term for the bytes: nothing is compared byte by byte -/
theorem code_word {y : MethodName} {bytes : ByteArray} {mx : Nat} {rt : Option FieldType} {a : Array Value} {s : State} {m : MethodId} {meth : Method} {c : Code} (h1 : s.methodNamed? y = some m) (h2 : s.vm.method? m = some meth) (h3 : meth.code = some c) (h4 : c.code = bytes)
    (h5 : (c.maxLocals == mx && c.exceptionTable.isEmpty && decide (c.maxStack ≤ mostOperands) && decide (meth.sig.returnType = rt) && !meth.locks && decide (parseMethodDescriptor y.desc = some meth.sig)) = true) : (Jvm.Cond.code y bytes mx rt).before a s = true := by
  simp only [Bool.and_eq_true, beq_iff_eq, Bool.not_eq_true', decide_eq_true_eq] at h5
  obtain ⟨⟨⟨⟨⟨g1, g2⟩, g3⟩, g4⟩, g5⟩, g6⟩ := h5
  simp [Cond.before, Cond.holds, Cond.value, h1, h2, h3, h4, g1, g2, g3, g4, g5, g6]
def isCode : Jvm.Cond → Bool
  | .code _ _ _ _ => true
  | _ => false
theorem all_split {L : List Jvm.Cond} {P : Jvm.Cond → Bool} (h1 : L.all (fun c => isCode c || P c) = true) (h2 : ∀ c ∈ L.filter isCode, P c = true) : L.all P = true := by
  refine List.all_eq_true.mpr fun c hc => ?_
  have h := List.all_eq_true.mp h1 c hc
  rcases Bool.eq_false_or_eq_true (isCode c) with hi | hi
  · exact h2 c (List.mem_filter.mpr ⟨hc, hi⟩)
  · simpa [hi] using h
set_option maxRecDepth 65536 in
theorem w_c0 : (Jvm.Cond.code x code maxLocals ret).before args0 about1 = true := code_word (m := ⟨1, 1⟩) (meth := k1m1) (c := k1c1) (by decide +kernel) rfl rfl rfl (by decide +kernel)
set_option maxRecDepth 65536 in
theorem w_c1 : (Jvm.Cond.code ({ cls := "java/lang/Math", name := "min", desc := "(JJ)J" } : Jvm.MethodName) jdk_29_method_70_code (4 : Nat) (Option.some Jvm.ClassFile.FieldType.long)).before args0 about1 = true := code_word (m := ⟨2, 1⟩) (meth := k2m1) (c := k2c1) (by decide +kernel) rfl rfl rfl (by decide +kernel)
set_option maxRecDepth 65536 in
theorem w_c2 : (Jvm.Cond.code ({ cls := "com/example/bidwell/bidwell/market/Price", name := "<init>", desc := "(J)V" } : Jvm.MethodName) prog_40_method_1_code (3 : Nat) (Option.none : Option Jvm.ClassFile.FieldType)).before args0 about1 = true := code_word (m := ⟨5, 0⟩) (meth := k5m0) (c := k5c0) (by decide +kernel) rfl rfl rfl (by decide +kernel)
set_option maxRecDepth 65536 in
theorem w_c3 : (Jvm.Cond.code ({ cls := "java/lang/Record", name := "<init>", desc := "()V" } : Jvm.MethodName) jdk_30_method_1_code (1 : Nat) (Option.none : Option Jvm.ClassFile.FieldType)).before args0 about1 = true := code_word (m := ⟨3, 0⟩) (meth := k3m0) (c := k3c0) (by decide +kernel) rfl rfl rfl (by decide +kernel)
set_option maxRecDepth 65536 in
theorem w_c4 : (Jvm.Cond.code ({ cls := "java/lang/Object", name := "<init>", desc := "()V" } : Jvm.MethodName) object_method_1_code (1 : Nat) (Option.none : Option Jvm.ClassFile.FieldType)).before args0 about1 = true := code_word (m := ⟨0, 0⟩) (meth := k0m0) (c := k0c0) (by decide +kernel) rfl rfl rfl (by decide +kernel)
set_option maxRecDepth 65536 in
theorem w_c5 : (Jvm.Cond.code ({ cls := "com/example/bidwell/bidwell/market/Price", name := "isMultipleOf", desc := "(Lcom/example/bidwell/bidwell/market/Price;)Z" } : Jvm.MethodName) prog_40_method_4_code (2 : Nat) (Option.some Jvm.ClassFile.FieldType.boolean)).before args0 about1 = true := code_word (m := ⟨5, 1⟩) (meth := k5m1) (c := k5c1) (by decide +kernel) rfl rfl rfl (by decide +kernel)
def codes1 : List Jvm.Cond := [Jvm.Cond.code x code maxLocals ret, Jvm.Cond.code ({ cls := "java/lang/Math", name := "min", desc := "(JJ)J" } : Jvm.MethodName) jdk_29_method_70_code (4 : Nat) (Option.some Jvm.ClassFile.FieldType.long), Jvm.Cond.code ({ cls := "com/example/bidwell/bidwell/market/Price", name := "<init>", desc := "(J)V" } : Jvm.MethodName) prog_40_method_1_code (3 : Nat) (Option.none : Option Jvm.ClassFile.FieldType), Jvm.Cond.code ({ cls := "java/lang/Record", name := "<init>", desc := "()V" } : Jvm.MethodName) jdk_30_method_1_code (1 : Nat) (Option.none : Option Jvm.ClassFile.FieldType), Jvm.Cond.code ({ cls := "java/lang/Object", name := "<init>", desc := "()V" } : Jvm.MethodName) object_method_1_code (1 : Nat) (Option.none : Option Jvm.ClassFile.FieldType), Jvm.Cond.code ({ cls := "com/example/bidwell/bidwell/market/Price", name := "isMultipleOf", desc := "(Lcom/example/bidwell/bidwell/market/Price;)Z" } : Jvm.MethodName) prog_40_method_4_code (2 : Nat) (Option.some Jvm.ClassFile.FieldType.boolean)]
set_option maxRecDepth 65536 in
theorem codes_eq : words1.filter isCode = codes1 := rfl
theorem w_codes : ∀ c ∈ words1.filter isCode, c.before args0 about1 = true := by
  rw [codes_eq]
  intro c hc
  simp only [codes1, List.mem_cons, List.not_mem_nil, or_false] at hc
  rcases hc with rfl | rfl | rfl | rfl | rfl | rfl
  · exact w_c0
  · exact w_c1
  · exact w_c2
  · exact w_c3
  · exact w_c4
  · exact w_c5
set_option maxRecDepth 65536 in
theorem w_t1 : (words1.take 24).all (fun c => isCode c || c.before args0 about1) = true := by decide +kernel
set_option maxRecDepth 65536 in
theorem w_t2 : (words1.drop 24).all (fun c => isCode c || c.before args0 about1) = true := by decide +kernel
theorem w_tables : (allAtoms (Jvm.Cond.code x code maxLocals ret :: tables_1)).before args0 about1 = true := by
  rw [allAtoms_all]
  show words1.all (fun c => c.before args0 about1) = true
  refine all_split ?_ w_codes
  rw [← List.take_append_drop 24 words1, List.all_append, w_t1, w_t2]
  rfl
set_option maxRecDepth 65536 in
theorem w_case : (Jvm.Cond.and given_1 narrow_1).before args0 about1 = true := by decide +kernel
theorem w_applies : (headSpec (Jvm.Cond.code x code maxLocals ret :: tables_1) room_1).applies x e0.platform about1 = true :=
  (Spec.applies_iff w_frames).mpr ⟨w_running, w_runnable, w_alone, w_named, w_hears, w_ripe, w_room, w_tables⟩
theorem atStart : AtStart classFile x code maxLocals ret World_1 tables_1 room_1 Calls_1 rest_1 Pre_1 launch0 p0 e0 about1 theMethod args0 below0 :=
  ⟨lists_1, trivial, launch0.admits_env _ _ _, launch0.least_env, fairChoices_fair.cas, fairChoices_fair.clock, w_frames, w_args, w_heap, w_applies, trivial, trivial, w_case⟩
end start1
theorem witness_1 : WitnessClaimed_1 := ⟨start1.p0, start1.e0, start1.about1, start1.theMethod, start1.args0, start1.below0, start1.atStart⟩
end Jvm.Pilot.@@N@@
