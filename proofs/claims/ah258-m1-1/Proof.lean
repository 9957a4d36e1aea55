import JvmDerived
import JvmDerived.Pilot.@@N@@Statement
import JvmDerived.Pilot.@@N@@Code
set_option linter.unusedVariables false
set_option linter.unusedSimpArgs false
namespace Jvm.RoadKit
open Sem ClassFile Op Lib Jvm.Stand Jvm.Free Jvm.LawKit
section New
variable {p : Program} {l : Launch} {e : Env} {R : Room} {s : State} {m : MethodId} {args : Array Value} {below : List Frame} {meth : Method} {c : Code} {T : State} {locs : List Loc} {cells slots : Nat}
theorem retI (X : Stand p l e R s m args below meth c T locs cells slots) (hx : p.tables.exec = Jvm.exec) {pc : Nat} {Ls : Array Slot} {z : Int32} {rest : List Value} (hret : meth.sig.returnType = some .int) (hd : decode c.code pc = .ok (.ireturn, 1)) {fs : List Frame}
    (hl : ∀ (f : JFrame) (acts : List Action), f.method = m → f.locked = none → f.entered = [] → (doReturn e (T.setTop f) acts (some (.int z))).1 = T.setFrames fs) : Steps p.tables e below (T.setTop (mkF m pc Ls (.int z :: rest))) (T.setFrames fs) := by
  have hm' : T.vm.method? m = some meth := X.method'
  have hn : narrow .int (.int z) = .int z := rfl
  show Steps p.tables e below (T.setTop { method := m, pc := pc, locals := Ls, stack := _ :: rest, locked := none }) _
  jvm_step X.here [X.here.top, hx, hd, hm', hret, hn]
  first | (intro acts; rw [hl _ acts rfl rfl rfl]) | rw [hl _ _ rfl rfl rfl]
  exact Steps.refl _
theorem own_lremM {g : JFrame} {target : State} (X : Stand p l e R s m args below meth c T locs cells slots) (hx : p.tables.exec = Jvm.exec) (hg : g.method = m) {x y : Int64} {rest : List Value} (hd : decode c.code g.pc = .ok (.lrem, 1)) (hs : g.stack = .long y :: .long x :: rest) (hy : y ≠ 0)
    (hr : Steps p.tables e below (T.setTop { g with pc := g.pc + 1, stack := .long (x % y) :: rest }) target) : Steps p.tables e below (T.setTop g) target := by
  have q : x - x / y * y = x % y := lrem_mod x y
  exact XS.lrem X.here hx hg hd hs hy (by rw [q]; exact hr)
end New
end Jvm.RoadKit
namespace Jvm.Pilot.@@N@@
open Jvm Jvm.ClassFile Sem Op Lib Jvm.Free Jvm.Stand Jvm.LawKit Jvm.RoadKit Bundle Jvm.Pilot.@@N@@.Jvm.D

theorem own_nar {r : Int32} (h : r = 0 ∨ r = 1) : nar .boolean r = r := by rcases h with rfl | rfl <;> rfl
theorem pd_1 : parseMethodDescriptor "(C)Z" = some ⟨[.char], some .boolean⟩ := by decide +kernel
theorem own_or32n : ∀ n : Nat, n ||| 32 = n + (if n % 64 < 32 then 32 else 0) := by
  intro n
  have h1 : (n ||| 32) % 64 = (n % 64) ||| 32 := by
    have := Nat.or_mod_two_pow (a := n) (b := 32) (n := 6); simpa using this
  have h2 : (n ||| 32) / 64 = n / 64 := by
    have := Nat.or_div_two_pow (a := n) (b := 32) (n := 6); simpa using this
  have h3 : ∀ r : Fin 64, (r.val ||| 32) = r.val + (if r.val < 32 then 32 else 0) := by decide
  have h4 := h3 ⟨n % 64, Nat.mod_lt _ (by decide)⟩
  simp only at h4
  split at h4 <;> split <;> omega
theorem own_nat32 {c : Int32} (h0 : 0 ≤ c.toInt) : c.toInt = (c.toBitVec.toNat : Int) := by
  have h := BitVec.toInt_eq_toNat_cond c.toBitVec
  have h' : c.toInt = c.toBitVec.toInt := rfl
  have := c.toBitVec.isLt
  rw [h'] at h0 ⊢
  split at h <;> omega
theorem own_or32 (c : Int32) (h0 : 0 ≤ c.toInt) (h1 : c.toInt < 65536) : (c ||| 32).toInt = c.toInt + (if c.toInt % 64 < 32 then 32 else 0) := by
  have e1 := own_nat32 h0
  have e2 : (c ||| 32).toBitVec.toNat = c.toBitVec.toNat ||| 32 := by
    show (c.toBitVec ||| 32#32).toNat = _
    rw [BitVec.toNat_or]; rfl
  rw [own_or32n] at e2
  have h' : (c ||| 32).toInt = (c ||| 32).toBitVec.toInt := rfl
  rw [h', BitVec.toInt_eq_toNat_cond, e2]
  split at * <;> split <;> omega
theorem own_plain (xx cc fo al ex r1 : Int32) (hcc : cc = ((xx &&& (65535 : Int32))).toUInt32.toUInt16.toUInt32.toInt32) (hfo : fo = (cc ||| (32 : Int32)) - (97 : Int32)) (hal : al = (if fo < (0 : Int32) then (0 : Int32) else (if fo < (26 : Int32) then (1 : Int32) else (0 : Int32)))) (hex : ex = (if cc = (95 : Int32) then (1 : Int32) else (if al = (0 : Int32) then (0 : Int32) else (1 : Int32)))) (hr1 : r1 = (if cc = (95 : Int32) then (1 : Int32) else (if cc < (97 : Int32) then (if cc < (65 : Int32) then (0 : Int32) else (if (90 : Int32) < cc then (0 : Int32) else (1 : Int32))) else (if (122 : Int32) < cc then (if cc < (65 : Int32) then (0 : Int32) else (if (90 : Int32) < cc then (0 : Int32) else (1 : Int32))) else (1 : Int32))))) : r1 = ex := by
  obtain ⟨-, b0, b1⟩ := c_i2c (xx &&& (65535 : Int32))
  rw [← hcc] at b0 b1
  have ho := own_or32 cc b0 b1
  have l0 : (95 : Int32).toInt = 95 := by decide
  have l1 : (97 : Int32).toInt = 97 := by decide
  have l2 : (122 : Int32).toInt = 122 := by decide
  have l3 : (65 : Int32).toInt = 65 := by decide
  have l4 : (90 : Int32).toInt = 90 := by decide
  have l5 : (26 : Int32).toInt = 26 := by decide
  have z0 : (0 : Int32).toInt = 0 := by decide
  have z1 : (1 : Int32).toInt = 1 := by decide
  have hs := c_isub (cc ||| 32) 97
  have hg := rng32 ((cc ||| 32) - 97)
  rw [← hfo, ho, l1] at hs
  rw [← hfo] at hg
  rw [hr1, hex]
  simp only [Int32.lt_iff_toInt_lt, ← Int32.toInt_inj, l0, l1, l2, l3, l4, l5, z0, z1] at *
  have z0 : (0 : Int32).toInt = 0 := by decide
  have z1 : (1 : Int32).toInt = 1 := by decide
  have ga : al.toInt = 1 ∧ (0 ≤ fo.toInt ∧ fo.toInt < 26) ∨ al.toInt = 0 ∧ ¬ (0 ≤ fo.toInt ∧ fo.toInt < 26) := by
    rw [hal]; (repeat' split) <;> omega
  clear hal hfo hcc hr1 hex
  generalize cc.toInt = c at *
  generalize fo.toInt = f at *
  split at hs <;> (repeat' split) <;> first | rfl | (exfalso; omega)
theorem d1_0 : decode prog_44_method_5_code 0 = .ok (.iload_n 0, 1) := by decide +kernel
theorem d1_1 : decode prog_44_method_5_code 1 = .ok (.bipush 95, 2) := by decide +kernel
theorem d1_3 : decode prog_44_method_5_code 3 = .ok (.if_icmp .eq 27, 3) := by decide +kernel
theorem d1_6 : decode prog_44_method_5_code 6 = .ok (.iload_n 0, 1) := by decide +kernel
theorem d1_7 : decode prog_44_method_5_code 7 = .ok (.bipush 97, 2) := by decide +kernel
theorem d1_9 : decode prog_44_method_5_code 9 = .ok (.if_icmp .lt 9, 3) := by decide +kernel
theorem d1_12 : decode prog_44_method_5_code 12 = .ok (.iload_n 0, 1) := by decide +kernel
theorem d1_13 : decode prog_44_method_5_code 13 = .ok (.bipush 122, 2) := by decide +kernel
theorem d1_15 : decode prog_44_method_5_code 15 = .ok (.if_icmp .le 15, 3) := by decide +kernel
theorem d1_18 : decode prog_44_method_5_code 18 = .ok (.iload_n 0, 1) := by decide +kernel
theorem d1_19 : decode prog_44_method_5_code 19 = .ok (.bipush 65, 2) := by decide +kernel
theorem d1_21 : decode prog_44_method_5_code 21 = .ok (.if_icmp .lt 13, 3) := by decide +kernel
theorem d1_24 : decode prog_44_method_5_code 24 = .ok (.iload_n 0, 1) := by decide +kernel
theorem d1_25 : decode prog_44_method_5_code 25 = .ok (.bipush 90, 2) := by decide +kernel
theorem d1_27 : decode prog_44_method_5_code 27 = .ok (.if_icmp .gt 7, 3) := by decide +kernel
theorem d1_30 : decode prog_44_method_5_code 30 = .ok (.iconst 1, 1) := by decide +kernel
theorem d1_31 : decode prog_44_method_5_code 31 = .ok (.goto 4, 3) := by decide +kernel
theorem d1_34 : decode prog_44_method_5_code 34 = .ok (.iconst 0, 1) := by decide +kernel
theorem d1_35 : decode prog_44_method_5_code 35 = .ok (.ireturn, 1) := by decide +kernel
theorem pn_1 : plainName "com/example/wary_authz/waryauthz/lang/Names" = true := by first | (simp [plainName, overriddenIn]; done) | decide +kernel
theorem ef_1 (m : MethodId) (q1 : Int32) : entryFrame m #[(.int q1)] 1 = (mkF m 0 #[.val (.int q1)] []) := by first | (simp [entryFrame, mkF, argsToLocals, Value.category]; done) | rfl
def Q1 (Z : State) (q1 : Int32) (h0 : Heap) (n0 : Nat) (v : Option Value) (h : Heap) (L : List Loc) : Prop := ∃ r : Int32, v = some (.int r) ∧ r = (if q1 = (95 : Int32) then (1 : Int32) else (if q1 < (97 : Int32) then (if q1 < (65 : Int32) then (0 : Int32) else (if (90 : Int32) < q1 then (0 : Int32) else (1 : Int32))) else (if (122 : Int32) < q1 then (if q1 < (65 : Int32) then (0 : Int32) else (if (90 : Int32) < q1 then (0 : Int32) else (1 : Int32))) else (1 : Int32)))) ∧ Fr n0 L ∧ h = h0
set_option maxRecDepth 65536 in
set_option maxHeartbeats 40000000 in
theorem rm1 (l : Launch) (Z : State) (a0 : Array Value) (hw : ∀ d ∈ tables_1, d.before a0 Z = true) (ws : List Jvm.Cond) (q1 : Int32) (h0 : Heap) (n0 : Nat) (Z0 : n0 ≤ h0.size)  :
    MetFree l (⟨"com/example/wary_authz/waryauthz/lang/Names", "isIdentifierStart", "(C)Z"⟩ : MethodName) (head1 (Jvm.Cond.code (⟨"com/example/wary_authz/waryauthz/lang/Names", "isIdentifierStart", "(C)Z"⟩ : MethodName) prog_44_method_5_code 1 (some .boolean) :: ws) ({ frames := 0, cells := 0, slots := 0, locals := 0 } : Room)) (fun a U => a = #[(.int q1)] ∧ Z.Warmed39 U.vm ∧ U.heap = h0) (fun _ _ _ _ _ => True) (fun _ U o U' => ∃ v L, o = .returned v ∧ Q1 Z q1 h0 n0 v U'.heap L ∧ FrameEnd U o U' L ({ frames := 0, cells := 0, slots := 0, locals := 0 } : Room).cells ({ frames := 0, cells := 0, slots := 0, locals := 0 } : Room).slots) := by
  refine MetFree.of_bodySF (plainFor_of_name pn_1) hisR ?_
  intro p e s m args below meth c s₁ Bd hml0 hP hK
  obtain ⟨rfl, hZ, hh⟩ := hP
  have hx := Bd.exec
  have hby := Bd.bytes
  have hml : c.maxLocals = 1 := hml0
  have hown : s.vm.findClass "com/example/wary_authz/waryauthz/lang/Names" = some m.cls := findClass_of_methodNamed Bd.named
  have hnm := (name_of_methodNamed Bd.named Bd.method).1
  have X0 : Stand p l e ({ frames := 0, cells := 0, slots := 0, locals := 0 } : Room) s m #[(.int q1)] below meth c s₁ [] 0 0 := Stand.of_body Bd
  have e0 : s₁.heap = h0 := by rw [← hh, Bd.state]; rfl
  have N0 := Fr.nil n0
  have pre0 : ∀ t, Steps p.tables e below (s₁.setTop (mkF m 0 #[.val (.int q1)] [])) t → Steps p.tables e below (s₁.setTop (entryFrame m #[(.int q1)] 1)) t := fun t k => castTop (ef_1 m q1) k
  have k26 : ∀ t, Steps p.tables e below (s₁.setTop (mkF m 3 #[.val (.int q1)] [(.int (95 : Int32)), (.int q1)])) t → Steps p.tables e below (s₁.setTop (entryFrame m #[(.int q1)] 1)) t := fun t hk => pre0 t (by
    show Steps p.tables e below (s₁.setTop (mkF m 0 #[.val (.int q1)] [])) _
    refine XS.iloadN X0.here hx rfl (hb hby d1_0) rfl ?_
    show Steps p.tables e below (s₁.setTop (mkF m 1 #[.val (.int q1)] [(.int q1)])) _
    refine XS.bipush X0.here hx rfl (hb hby d1_1) ?_
    exact hk)
  obtain ⟨r0, hr0, k27⟩ : ∃ (r0 : Int32), (r0 = (if q1 = (95 : Int32) then (1 : Int32) else (if q1 < (97 : Int32) then (if q1 < (65 : Int32) then (0 : Int32) else (if (90 : Int32) < q1 then (0 : Int32) else (1 : Int32))) else (if (122 : Int32) < q1 then (if q1 < (65 : Int32) then (0 : Int32) else (if (90 : Int32) < q1 then (0 : Int32) else (1 : Int32))) else (1 : Int32))))) ∧ ∀ t, Steps p.tables e below (s₁.setTop (mkF m 35 #[.val (.int q1)] [(.int r0)])) t → Steps p.tables e below (s₁.setTop (entryFrame m #[(.int q1)] 1)) t := by
    by_cases hc3 : q1 = (95 : Int32)
    ·
      refine ⟨(1 : Int32), ((if_pos hc3).trans rfl).symm, fun t hk => k26 t ?_⟩
      show Steps p.tables e below (s₁.setTop (mkF m 3 #[.val (.int q1)] [(.int (95 : Int32)), (.int q1)])) _
      refine XS.icmpYes X0.here hx rfl (pc0 := 3) (pc' := 30) rfl (hb hby d1_3) rfl (teq hc3).1 (by decide) (by decide) ?_
      show Steps p.tables e below (s₁.setTop (mkF m 30 #[.val (.int q1)] [])) _
      refine XS.iconst X0.here hx rfl (hb hby d1_30) ?_
      show Steps p.tables e below (s₁.setTop (mkF m 31 #[.val (.int q1)] [(.int (1 : Int32))])) _
      refine XS.goto X0.here hx rfl (pc0 := 31) (pc' := 35) rfl (hb hby d1_31) (by decide) (by decide) ?_
      exact hk
    ·
      by_cases hc9 : q1 < (97 : Int32)
      ·
        by_cases hc21 : q1 < (65 : Int32)
        ·
          refine ⟨(0 : Int32), ((if_neg hc3).trans ((if_pos hc9).trans ((if_pos hc21).trans rfl))).symm, fun t hk => k26 t ?_⟩
          show Steps p.tables e below (s₁.setTop (mkF m 3 #[.val (.int q1)] [(.int (95 : Int32)), (.int q1)])) _
          refine XS.icmpNo X0.here hx rfl (hb hby d1_3) rfl (feq hc3).1 ?_
          show Steps p.tables e below (s₁.setTop (mkF m 6 #[.val (.int q1)] [])) _
          refine XS.iloadN X0.here hx rfl (hb hby d1_6) rfl ?_
          show Steps p.tables e below (s₁.setTop (mkF m 7 #[.val (.int q1)] [(.int q1)])) _
          refine XS.bipush X0.here hx rfl (hb hby d1_7) ?_
          show Steps p.tables e below (s₁.setTop (mkF m 9 #[.val (.int q1)] [(.int (97 : Int32)), (.int q1)])) _
          refine XS.icmpYes X0.here hx rfl (pc0 := 9) (pc' := 18) rfl (hb hby d1_9) rfl (tlt hc9).1 (by decide) (by decide) ?_
          show Steps p.tables e below (s₁.setTop (mkF m 18 #[.val (.int q1)] [])) _
          refine XS.iloadN X0.here hx rfl (hb hby d1_18) rfl ?_
          show Steps p.tables e below (s₁.setTop (mkF m 19 #[.val (.int q1)] [(.int q1)])) _
          refine XS.bipush X0.here hx rfl (hb hby d1_19) ?_
          show Steps p.tables e below (s₁.setTop (mkF m 21 #[.val (.int q1)] [(.int (65 : Int32)), (.int q1)])) _
          refine XS.icmpYes X0.here hx rfl (pc0 := 21) (pc' := 34) rfl (hb hby d1_21) rfl (tlt hc21).1 (by decide) (by decide) ?_
          show Steps p.tables e below (s₁.setTop (mkF m 34 #[.val (.int q1)] [])) _
          refine XS.iconst X0.here hx rfl (hb hby d1_34) ?_
          exact hk
        ·
          by_cases hc27 : (90 : Int32) < q1
          ·
            refine ⟨(0 : Int32), ((if_neg hc3).trans ((if_pos hc9).trans ((if_neg hc21).trans ((if_pos hc27).trans rfl)))).symm, fun t hk => k26 t ?_⟩
            show Steps p.tables e below (s₁.setTop (mkF m 3 #[.val (.int q1)] [(.int (95 : Int32)), (.int q1)])) _
            refine XS.icmpNo X0.here hx rfl (hb hby d1_3) rfl (feq hc3).1 ?_
            show Steps p.tables e below (s₁.setTop (mkF m 6 #[.val (.int q1)] [])) _
            refine XS.iloadN X0.here hx rfl (hb hby d1_6) rfl ?_
            show Steps p.tables e below (s₁.setTop (mkF m 7 #[.val (.int q1)] [(.int q1)])) _
            refine XS.bipush X0.here hx rfl (hb hby d1_7) ?_
            show Steps p.tables e below (s₁.setTop (mkF m 9 #[.val (.int q1)] [(.int (97 : Int32)), (.int q1)])) _
            refine XS.icmpYes X0.here hx rfl (pc0 := 9) (pc' := 18) rfl (hb hby d1_9) rfl (tlt hc9).1 (by decide) (by decide) ?_
            show Steps p.tables e below (s₁.setTop (mkF m 18 #[.val (.int q1)] [])) _
            refine XS.iloadN X0.here hx rfl (hb hby d1_18) rfl ?_
            show Steps p.tables e below (s₁.setTop (mkF m 19 #[.val (.int q1)] [(.int q1)])) _
            refine XS.bipush X0.here hx rfl (hb hby d1_19) ?_
            show Steps p.tables e below (s₁.setTop (mkF m 21 #[.val (.int q1)] [(.int (65 : Int32)), (.int q1)])) _
            refine XS.icmpNo X0.here hx rfl (hb hby d1_21) rfl (flt hc21).1 ?_
            show Steps p.tables e below (s₁.setTop (mkF m 24 #[.val (.int q1)] [])) _
            refine XS.iloadN X0.here hx rfl (hb hby d1_24) rfl ?_
            show Steps p.tables e below (s₁.setTop (mkF m 25 #[.val (.int q1)] [(.int q1)])) _
            refine XS.bipush X0.here hx rfl (hb hby d1_25) ?_
            show Steps p.tables e below (s₁.setTop (mkF m 27 #[.val (.int q1)] [(.int (90 : Int32)), (.int q1)])) _
            refine XS.icmpYes X0.here hx rfl (pc0 := 27) (pc' := 34) rfl (hb hby d1_27) rfl (tlt hc27).2.2.1 (by decide) (by decide) ?_
            show Steps p.tables e below (s₁.setTop (mkF m 34 #[.val (.int q1)] [])) _
            refine XS.iconst X0.here hx rfl (hb hby d1_34) ?_
            exact hk
          ·
            refine ⟨(1 : Int32), ((if_neg hc3).trans ((if_pos hc9).trans ((if_neg hc21).trans ((if_neg hc27).trans rfl)))).symm, fun t hk => k26 t ?_⟩
            show Steps p.tables e below (s₁.setTop (mkF m 3 #[.val (.int q1)] [(.int (95 : Int32)), (.int q1)])) _
            refine XS.icmpNo X0.here hx rfl (hb hby d1_3) rfl (feq hc3).1 ?_
            show Steps p.tables e below (s₁.setTop (mkF m 6 #[.val (.int q1)] [])) _
            refine XS.iloadN X0.here hx rfl (hb hby d1_6) rfl ?_
            show Steps p.tables e below (s₁.setTop (mkF m 7 #[.val (.int q1)] [(.int q1)])) _
            refine XS.bipush X0.here hx rfl (hb hby d1_7) ?_
            show Steps p.tables e below (s₁.setTop (mkF m 9 #[.val (.int q1)] [(.int (97 : Int32)), (.int q1)])) _
            refine XS.icmpYes X0.here hx rfl (pc0 := 9) (pc' := 18) rfl (hb hby d1_9) rfl (tlt hc9).1 (by decide) (by decide) ?_
            show Steps p.tables e below (s₁.setTop (mkF m 18 #[.val (.int q1)] [])) _
            refine XS.iloadN X0.here hx rfl (hb hby d1_18) rfl ?_
            show Steps p.tables e below (s₁.setTop (mkF m 19 #[.val (.int q1)] [(.int q1)])) _
            refine XS.bipush X0.here hx rfl (hb hby d1_19) ?_
            show Steps p.tables e below (s₁.setTop (mkF m 21 #[.val (.int q1)] [(.int (65 : Int32)), (.int q1)])) _
            refine XS.icmpNo X0.here hx rfl (hb hby d1_21) rfl (flt hc21).1 ?_
            show Steps p.tables e below (s₁.setTop (mkF m 24 #[.val (.int q1)] [])) _
            refine XS.iloadN X0.here hx rfl (hb hby d1_24) rfl ?_
            show Steps p.tables e below (s₁.setTop (mkF m 25 #[.val (.int q1)] [(.int q1)])) _
            refine XS.bipush X0.here hx rfl (hb hby d1_25) ?_
            show Steps p.tables e below (s₁.setTop (mkF m 27 #[.val (.int q1)] [(.int (90 : Int32)), (.int q1)])) _
            refine XS.icmpNo X0.here hx rfl (hb hby d1_27) rfl (flt hc27).2.2.1 ?_
            show Steps p.tables e below (s₁.setTop (mkF m 30 #[.val (.int q1)] [])) _
            refine XS.iconst X0.here hx rfl (hb hby d1_30) ?_
            show Steps p.tables e below (s₁.setTop (mkF m 31 #[.val (.int q1)] [(.int (1 : Int32))])) _
            refine XS.goto X0.here hx rfl (pc0 := 31) (pc' := 35) rfl (hb hby d1_31) (by decide) (by decide) ?_
            exact hk
      ·
        by_cases hc15 : (122 : Int32) < q1
        ·
          by_cases hc21 : q1 < (65 : Int32)
          ·
            refine ⟨(0 : Int32), ((if_neg hc3).trans ((if_neg hc9).trans ((if_pos hc15).trans ((if_pos hc21).trans rfl)))).symm, fun t hk => k26 t ?_⟩
            show Steps p.tables e below (s₁.setTop (mkF m 3 #[.val (.int q1)] [(.int (95 : Int32)), (.int q1)])) _
            refine XS.icmpNo X0.here hx rfl (hb hby d1_3) rfl (feq hc3).1 ?_
            show Steps p.tables e below (s₁.setTop (mkF m 6 #[.val (.int q1)] [])) _
            refine XS.iloadN X0.here hx rfl (hb hby d1_6) rfl ?_
            show Steps p.tables e below (s₁.setTop (mkF m 7 #[.val (.int q1)] [(.int q1)])) _
            refine XS.bipush X0.here hx rfl (hb hby d1_7) ?_
            show Steps p.tables e below (s₁.setTop (mkF m 9 #[.val (.int q1)] [(.int (97 : Int32)), (.int q1)])) _
            refine XS.icmpNo X0.here hx rfl (hb hby d1_9) rfl (flt hc9).1 ?_
            show Steps p.tables e below (s₁.setTop (mkF m 12 #[.val (.int q1)] [])) _
            refine XS.iloadN X0.here hx rfl (hb hby d1_12) rfl ?_
            show Steps p.tables e below (s₁.setTop (mkF m 13 #[.val (.int q1)] [(.int q1)])) _
            refine XS.bipush X0.here hx rfl (hb hby d1_13) ?_
            show Steps p.tables e below (s₁.setTop (mkF m 15 #[.val (.int q1)] [(.int (122 : Int32)), (.int q1)])) _
            refine XS.icmpNo X0.here hx rfl (hb hby d1_15) rfl (tlt hc15).2.2.2 ?_
            show Steps p.tables e below (s₁.setTop (mkF m 18 #[.val (.int q1)] [])) _
            refine XS.iloadN X0.here hx rfl (hb hby d1_18) rfl ?_
            show Steps p.tables e below (s₁.setTop (mkF m 19 #[.val (.int q1)] [(.int q1)])) _
            refine XS.bipush X0.here hx rfl (hb hby d1_19) ?_
            show Steps p.tables e below (s₁.setTop (mkF m 21 #[.val (.int q1)] [(.int (65 : Int32)), (.int q1)])) _
            refine XS.icmpYes X0.here hx rfl (pc0 := 21) (pc' := 34) rfl (hb hby d1_21) rfl (tlt hc21).1 (by decide) (by decide) ?_
            show Steps p.tables e below (s₁.setTop (mkF m 34 #[.val (.int q1)] [])) _
            refine XS.iconst X0.here hx rfl (hb hby d1_34) ?_
            exact hk
          ·
            by_cases hc27 : (90 : Int32) < q1
            ·
              refine ⟨(0 : Int32), ((if_neg hc3).trans ((if_neg hc9).trans ((if_pos hc15).trans ((if_neg hc21).trans ((if_pos hc27).trans rfl))))).symm, fun t hk => k26 t ?_⟩
              show Steps p.tables e below (s₁.setTop (mkF m 3 #[.val (.int q1)] [(.int (95 : Int32)), (.int q1)])) _
              refine XS.icmpNo X0.here hx rfl (hb hby d1_3) rfl (feq hc3).1 ?_
              show Steps p.tables e below (s₁.setTop (mkF m 6 #[.val (.int q1)] [])) _
              refine XS.iloadN X0.here hx rfl (hb hby d1_6) rfl ?_
              show Steps p.tables e below (s₁.setTop (mkF m 7 #[.val (.int q1)] [(.int q1)])) _
              refine XS.bipush X0.here hx rfl (hb hby d1_7) ?_
              show Steps p.tables e below (s₁.setTop (mkF m 9 #[.val (.int q1)] [(.int (97 : Int32)), (.int q1)])) _
              refine XS.icmpNo X0.here hx rfl (hb hby d1_9) rfl (flt hc9).1 ?_
              show Steps p.tables e below (s₁.setTop (mkF m 12 #[.val (.int q1)] [])) _
              refine XS.iloadN X0.here hx rfl (hb hby d1_12) rfl ?_
              show Steps p.tables e below (s₁.setTop (mkF m 13 #[.val (.int q1)] [(.int q1)])) _
              refine XS.bipush X0.here hx rfl (hb hby d1_13) ?_
              show Steps p.tables e below (s₁.setTop (mkF m 15 #[.val (.int q1)] [(.int (122 : Int32)), (.int q1)])) _
              refine XS.icmpNo X0.here hx rfl (hb hby d1_15) rfl (tlt hc15).2.2.2 ?_
              show Steps p.tables e below (s₁.setTop (mkF m 18 #[.val (.int q1)] [])) _
              refine XS.iloadN X0.here hx rfl (hb hby d1_18) rfl ?_
              show Steps p.tables e below (s₁.setTop (mkF m 19 #[.val (.int q1)] [(.int q1)])) _
              refine XS.bipush X0.here hx rfl (hb hby d1_19) ?_
              show Steps p.tables e below (s₁.setTop (mkF m 21 #[.val (.int q1)] [(.int (65 : Int32)), (.int q1)])) _
              refine XS.icmpNo X0.here hx rfl (hb hby d1_21) rfl (flt hc21).1 ?_
              show Steps p.tables e below (s₁.setTop (mkF m 24 #[.val (.int q1)] [])) _
              refine XS.iloadN X0.here hx rfl (hb hby d1_24) rfl ?_
              show Steps p.tables e below (s₁.setTop (mkF m 25 #[.val (.int q1)] [(.int q1)])) _
              refine XS.bipush X0.here hx rfl (hb hby d1_25) ?_
              show Steps p.tables e below (s₁.setTop (mkF m 27 #[.val (.int q1)] [(.int (90 : Int32)), (.int q1)])) _
              refine XS.icmpYes X0.here hx rfl (pc0 := 27) (pc' := 34) rfl (hb hby d1_27) rfl (tlt hc27).2.2.1 (by decide) (by decide) ?_
              show Steps p.tables e below (s₁.setTop (mkF m 34 #[.val (.int q1)] [])) _
              refine XS.iconst X0.here hx rfl (hb hby d1_34) ?_
              exact hk
            ·
              refine ⟨(1 : Int32), ((if_neg hc3).trans ((if_neg hc9).trans ((if_pos hc15).trans ((if_neg hc21).trans ((if_neg hc27).trans rfl))))).symm, fun t hk => k26 t ?_⟩
              show Steps p.tables e below (s₁.setTop (mkF m 3 #[.val (.int q1)] [(.int (95 : Int32)), (.int q1)])) _
              refine XS.icmpNo X0.here hx rfl (hb hby d1_3) rfl (feq hc3).1 ?_
              show Steps p.tables e below (s₁.setTop (mkF m 6 #[.val (.int q1)] [])) _
              refine XS.iloadN X0.here hx rfl (hb hby d1_6) rfl ?_
              show Steps p.tables e below (s₁.setTop (mkF m 7 #[.val (.int q1)] [(.int q1)])) _
              refine XS.bipush X0.here hx rfl (hb hby d1_7) ?_
              show Steps p.tables e below (s₁.setTop (mkF m 9 #[.val (.int q1)] [(.int (97 : Int32)), (.int q1)])) _
              refine XS.icmpNo X0.here hx rfl (hb hby d1_9) rfl (flt hc9).1 ?_
              show Steps p.tables e below (s₁.setTop (mkF m 12 #[.val (.int q1)] [])) _
              refine XS.iloadN X0.here hx rfl (hb hby d1_12) rfl ?_
              show Steps p.tables e below (s₁.setTop (mkF m 13 #[.val (.int q1)] [(.int q1)])) _
              refine XS.bipush X0.here hx rfl (hb hby d1_13) ?_
              show Steps p.tables e below (s₁.setTop (mkF m 15 #[.val (.int q1)] [(.int (122 : Int32)), (.int q1)])) _
              refine XS.icmpNo X0.here hx rfl (hb hby d1_15) rfl (tlt hc15).2.2.2 ?_
              show Steps p.tables e below (s₁.setTop (mkF m 18 #[.val (.int q1)] [])) _
              refine XS.iloadN X0.here hx rfl (hb hby d1_18) rfl ?_
              show Steps p.tables e below (s₁.setTop (mkF m 19 #[.val (.int q1)] [(.int q1)])) _
              refine XS.bipush X0.here hx rfl (hb hby d1_19) ?_
              show Steps p.tables e below (s₁.setTop (mkF m 21 #[.val (.int q1)] [(.int (65 : Int32)), (.int q1)])) _
              refine XS.icmpNo X0.here hx rfl (hb hby d1_21) rfl (flt hc21).1 ?_
              show Steps p.tables e below (s₁.setTop (mkF m 24 #[.val (.int q1)] [])) _
              refine XS.iloadN X0.here hx rfl (hb hby d1_24) rfl ?_
              show Steps p.tables e below (s₁.setTop (mkF m 25 #[.val (.int q1)] [(.int q1)])) _
              refine XS.bipush X0.here hx rfl (hb hby d1_25) ?_
              show Steps p.tables e below (s₁.setTop (mkF m 27 #[.val (.int q1)] [(.int (90 : Int32)), (.int q1)])) _
              refine XS.icmpNo X0.here hx rfl (hb hby d1_27) rfl (flt hc27).2.2.1 ?_
              show Steps p.tables e below (s₁.setTop (mkF m 30 #[.val (.int q1)] [])) _
              refine XS.iconst X0.here hx rfl (hb hby d1_30) ?_
              show Steps p.tables e below (s₁.setTop (mkF m 31 #[.val (.int q1)] [(.int (1 : Int32))])) _
              refine XS.goto X0.here hx rfl (pc0 := 31) (pc' := 35) rfl (hb hby d1_31) (by decide) (by decide) ?_
              exact hk
        ·
          refine ⟨(1 : Int32), ((if_neg hc3).trans ((if_neg hc9).trans ((if_neg hc15).trans rfl))).symm, fun t hk => k26 t ?_⟩
          show Steps p.tables e below (s₁.setTop (mkF m 3 #[.val (.int q1)] [(.int (95 : Int32)), (.int q1)])) _
          refine XS.icmpNo X0.here hx rfl (hb hby d1_3) rfl (feq hc3).1 ?_
          show Steps p.tables e below (s₁.setTop (mkF m 6 #[.val (.int q1)] [])) _
          refine XS.iloadN X0.here hx rfl (hb hby d1_6) rfl ?_
          show Steps p.tables e below (s₁.setTop (mkF m 7 #[.val (.int q1)] [(.int q1)])) _
          refine XS.bipush X0.here hx rfl (hb hby d1_7) ?_
          show Steps p.tables e below (s₁.setTop (mkF m 9 #[.val (.int q1)] [(.int (97 : Int32)), (.int q1)])) _
          refine XS.icmpNo X0.here hx rfl (hb hby d1_9) rfl (flt hc9).1 ?_
          show Steps p.tables e below (s₁.setTop (mkF m 12 #[.val (.int q1)] [])) _
          refine XS.iloadN X0.here hx rfl (hb hby d1_12) rfl ?_
          show Steps p.tables e below (s₁.setTop (mkF m 13 #[.val (.int q1)] [(.int q1)])) _
          refine XS.bipush X0.here hx rfl (hb hby d1_13) ?_
          show Steps p.tables e below (s₁.setTop (mkF m 15 #[.val (.int q1)] [(.int (122 : Int32)), (.int q1)])) _
          refine XS.icmpYes X0.here hx rfl (pc0 := 15) (pc' := 30) rfl (hb hby d1_15) rfl (flt hc15).2.2.2 (by decide) (by decide) ?_
          show Steps p.tables e below (s₁.setTop (mkF m 30 #[.val (.int q1)] [])) _
          refine XS.iconst X0.here hx rfl (hb hby d1_30) ?_
          show Steps p.tables e below (s₁.setTop (mkF m 31 #[.val (.int q1)] [(.int (1 : Int32))])) _
          refine XS.goto X0.here hx rfl (pc0 := 31) (pc' := 35) rfl (hb hby d1_31) (by decide) (by decide) ?_
          exact hk
  obtain ⟨fs, hr, hrun, hended, hW, hsame⟩ := X0.leave (v := some (.int (nar .boolean r0))) (fun h => by rw [Bd.returns] at h; cases h)
  refine ⟨_, _, k27 _ ?_, hrun, hended, _, _, rfl, ?_, ⟨_, rfl⟩, hW, hsame.mono (by decide) (by decide)⟩
  · show Steps p.tables e below (s₁.setTop (mkF m 35 #[.val (.int q1)] [(.int r0)])) _
    exact retN X0 hx (t := .boolean) Bd.returns (by simp) (hb hby d1_35) hr
  · show Q1 Z q1 h0 n0 _ s₁.heap _
    rw [e0]
    exact ⟨_, rfl, (own_nar (by rw [hr0]; (repeat' split) <;> simp)).trans hr0, N0, rfl⟩
theorem pn_0 : plainName "com/example/wary_authz/waryauthz/lang/NamesIsIdentifierStartPinLaw" = true := by first | (simp [plainName, overriddenIn]; done) | decide +kernel
theorem ef_0 (m : MethodId) (xx : Int32) : entryFrame m #[(.int xx)] maxLocals = (mkF m 0 #[.val (.int xx), .unset, .unset, .unset, .unset] []) := by first | (simp [entryFrame, mkF, argsToLocals, Value.category, maxLocals]; done) | rfl
def Q0 (Z : State) (xx : Int32) (h0 : Heap) (n0 : Nat) (v : Option Value) (h : Heap) (L : List Loc) : Prop := v = some (.int 1) ∧ Fr n0 L
set_option maxRecDepth 65536 in
set_option maxHeartbeats 40000000 in
theorem rm0 (l : Launch) (Z : State) (a0 : Array Value) (hw : ∀ d ∈ tables_1, d.before a0 Z = true) (ws : List Jvm.Cond) (xx : Int32) (h0 : Heap) (n0 : Nat) (Z0 : n0 ≤ h0.size)  :
    MetFree l x (head1 (Jvm.Cond.code x code maxLocals ret :: ws) room_1) (fun a U => a = #[(.int xx)] ∧ Z.Warmed39 U.vm ∧ U.heap = h0) (fun _ _ _ _ _ => True) (fun _ U o U' => ∃ v L, o = .returned v ∧ Q0 Z xx h0 n0 v U'.heap L ∧ FrameEnd U o U' L room_1.cells room_1.slots) := by
  refine MetFree.of_bodySF (plainFor_of_name pn_0) hisR ?_
  intro p e s m args below meth c s₁ Bd hml0 hP hK
  obtain ⟨rfl, hZ, hh⟩ := hP
  have hx := Bd.exec
  have hby := Bd.bytes
  have hml : c.maxLocals = 5 := hml0
  have hown : s.vm.findClass "com/example/wary_authz/waryauthz/lang/NamesIsIdentifierStartPinLaw" = some m.cls := findClass_of_methodNamed Bd.named
  have hnm := (name_of_methodNamed Bd.named Bd.method).1
  have X0 : Stand p l e room_1 s m #[(.int xx)] below meth c s₁ [] 0 0 := Stand.of_body Bd
  have e0 : s₁.heap = h0 := by rw [← hh, Bd.state]; rfl
  have N0 := Fr.nil n0
  have pre0 : ∀ t, Steps p.tables e below (s₁.setTop (mkF m 0 #[.val (.int xx), .unset, .unset, .unset, .unset] [])) t → Steps p.tables e below (s₁.setTop (entryFrame m #[(.int xx)] maxLocals)) t := fun t k => castTop (ef_0 m xx) k
  have k28 : ∀ t, Steps p.tables e below (s₁.setTop (mkF m 6 #[.val (.int xx), .val (.int (((xx &&& (65535 : Int32))).toUInt32.toUInt16.toUInt32.toInt32)), .unset, .unset, .unset] [])) t → Steps p.tables e below (s₁.setTop (entryFrame m #[(.int xx)] maxLocals)) t := fun t hk => pre0 t (by
    show Steps p.tables e below (s₁.setTop (mkF m 0 #[.val (.int xx), .unset, .unset, .unset, .unset] [])) _
    refine XS.iloadN X0.here hx rfl (hb hby at_0) rfl ?_
    show Steps p.tables e below (s₁.setTop (mkF m 1 #[.val (.int xx), .unset, .unset, .unset, .unset] [(.int xx)])) _
    refine X0.ldcInt hx hown (mvT hZ (hw _ (List.mem_of_getElem? (i := 0) rfl))) (g := (mkF m 1 #[.val (.int xx), .unset, .unset, .unset, .unset] [(.int xx)])) rfl (hb hby at_1) _ ?_
    show Steps p.tables e below (s₁.setTop (mkF m 3 #[.val (.int xx), .unset, .unset, .unset, .unset] [(.int (65535 : Int32)), (.int xx)])) _
    refine XS.iand X0.here hx rfl (hb hby at_3) rfl ?_
    show Steps p.tables e below (s₁.setTop (mkF m 4 #[.val (.int xx), .unset, .unset, .unset, .unset] [(.int (xx &&& (65535 : Int32)))])) _
    refine XS.i2c X0.here hx rfl (hb hby at_4) rfl ?_
    show Steps p.tables e below (s₁.setTop (mkF m 5 #[.val (.int xx), .unset, .unset, .unset, .unset] [(.int (((xx &&& (65535 : Int32))).toUInt32.toUInt16.toUInt32.toInt32))])) _
    refine XS.istoreN X0.here hx rfl (hb hby at_5) rfl (l' := #[.val (.int xx), .val (.int (((xx &&& (65535 : Int32))).toUInt32.toUInt16.toUInt32.toInt32)), .unset, .unset, .unset]) rfl ?_
    exact hk)
  obtain ⟨cc, hcc, k29⟩ : ∃ (cc : Int32), cc = (((xx &&& (65535 : Int32))).toUInt32.toUInt16.toUInt32.toInt32) ∧ ∀ t, Steps p.tables e below (s₁.setTop (mkF m 6 #[.val (.int xx), .val (.int cc), .unset, .unset, .unset] [])) t → Steps p.tables e below (s₁.setTop (entryFrame m #[(.int xx)] maxLocals)) t := ⟨(((xx &&& (65535 : Int32))).toUInt32.toUInt16.toUInt32.toInt32), rfl, k28⟩
  have k30 : ∀ t, Steps p.tables e below (s₁.setTop (mkF m 14 #[.val (.int xx), .val (.int cc), .val (.int ((cc ||| (32 : Int32)) - (97 : Int32))), .unset, .unset] [])) t → Steps p.tables e below (s₁.setTop (entryFrame m #[(.int xx)] maxLocals)) t := fun t hk => k29 t (by
    show Steps p.tables e below (s₁.setTop (mkF m 6 #[.val (.int xx), .val (.int cc), .unset, .unset, .unset] [])) _
    refine XS.iloadN X0.here hx rfl (hb hby at_6) rfl ?_
    show Steps p.tables e below (s₁.setTop (mkF m 7 #[.val (.int xx), .val (.int cc), .unset, .unset, .unset] [(.int cc)])) _
    refine XS.bipush X0.here hx rfl (hb hby at_7) ?_
    show Steps p.tables e below (s₁.setTop (mkF m 9 #[.val (.int xx), .val (.int cc), .unset, .unset, .unset] [(.int (32 : Int32)), (.int cc)])) _
    refine XS.ior X0.here hx rfl (hb hby at_9) rfl ?_
    show Steps p.tables e below (s₁.setTop (mkF m 10 #[.val (.int xx), .val (.int cc), .unset, .unset, .unset] [(.int (cc ||| (32 : Int32)))])) _
    refine XS.bipush X0.here hx rfl (hb hby at_10) ?_
    show Steps p.tables e below (s₁.setTop (mkF m 12 #[.val (.int xx), .val (.int cc), .unset, .unset, .unset] [(.int (97 : Int32)), (.int (cc ||| (32 : Int32)))])) _
    refine XS.isub X0.here hx rfl (hb hby at_12) rfl ?_
    show Steps p.tables e below (s₁.setTop (mkF m 13 #[.val (.int xx), .val (.int cc), .unset, .unset, .unset] [(.int ((cc ||| (32 : Int32)) - (97 : Int32)))])) _
    refine XS.istoreN X0.here hx rfl (hb hby at_13) rfl (l' := #[.val (.int xx), .val (.int cc), .val (.int ((cc ||| (32 : Int32)) - (97 : Int32))), .unset, .unset]) rfl ?_
    exact hk)
  obtain ⟨fo, hfo, k31⟩ : ∃ (fo : Int32), fo = ((cc ||| (32 : Int32)) - (97 : Int32)) ∧ ∀ t, Steps p.tables e below (s₁.setTop (mkF m 14 #[.val (.int xx), .val (.int cc), .val (.int fo), .unset, .unset] [])) t → Steps p.tables e below (s₁.setTop (entryFrame m #[(.int xx)] maxLocals)) t := ⟨((cc ||| (32 : Int32)) - (97 : Int32)), rfl, k30⟩
  have k32 : ∀ t, Steps p.tables e below (s₁.setTop (mkF m 15 #[.val (.int xx), .val (.int cc), .val (.int fo), .unset, .unset] [(.int fo)])) t → Steps p.tables e below (s₁.setTop (entryFrame m #[(.int xx)] maxLocals)) t := fun t hk => k31 t (by
    show Steps p.tables e below (s₁.setTop (mkF m 14 #[.val (.int xx), .val (.int cc), .val (.int fo), .unset, .unset] [])) _
    refine XS.iloadN X0.here hx rfl (hb hby at_14) rfl ?_
    exact hk)
  obtain ⟨al, hal, k33⟩ : ∃ (al : Int32), (al = (if fo < (0 : Int32) then (0 : Int32) else (if fo < (26 : Int32) then (1 : Int32) else (0 : Int32)))) ∧ ∀ t, Steps p.tables e below (s₁.setTop (mkF m 29 #[.val (.int xx), .val (.int cc), .val (.int fo), .unset, .unset] [(.int al)])) t → Steps p.tables e below (s₁.setTop (entryFrame m #[(.int xx)] maxLocals)) t := by
    by_cases hc15 : fo < (0 : Int32)
    ·
      refine ⟨(0 : Int32), ((if_pos hc15).trans rfl).symm, fun t hk => k32 t ?_⟩
      show Steps p.tables e below (s₁.setTop (mkF m 15 #[.val (.int xx), .val (.int cc), .val (.int fo), .unset, .unset] [(.int fo)])) _
      refine XS.ifYes X0.here hx rfl (pc0 := 15) (pc' := 28) rfl (hb hby at_15) rfl ((if0 _ _).trans (tlt hc15).1) (by decide) (by decide) ?_
      show Steps p.tables e below (s₁.setTop (mkF m 28 #[.val (.int xx), .val (.int cc), .val (.int fo), .unset, .unset] [])) _
      refine XS.iconst X0.here hx rfl (hb hby at_28) ?_
      exact hk
    ·
      by_cases hc21 : fo < (26 : Int32)
      ·
        refine ⟨(1 : Int32), ((if_neg hc15).trans ((if_pos hc21).trans rfl)).symm, fun t hk => k32 t ?_⟩
        show Steps p.tables e below (s₁.setTop (mkF m 15 #[.val (.int xx), .val (.int cc), .val (.int fo), .unset, .unset] [(.int fo)])) _
        refine XS.ifNo X0.here hx rfl (hb hby at_15) rfl ((if0 _ _).trans (flt hc15).1) ?_
        show Steps p.tables e below (s₁.setTop (mkF m 18 #[.val (.int xx), .val (.int cc), .val (.int fo), .unset, .unset] [])) _
        refine XS.iloadN X0.here hx rfl (hb hby at_18) rfl ?_
        show Steps p.tables e below (s₁.setTop (mkF m 19 #[.val (.int xx), .val (.int cc), .val (.int fo), .unset, .unset] [(.int fo)])) _
        refine XS.bipush X0.here hx rfl (hb hby at_19) ?_
        show Steps p.tables e below (s₁.setTop (mkF m 21 #[.val (.int xx), .val (.int cc), .val (.int fo), .unset, .unset] [(.int (26 : Int32)), (.int fo)])) _
        refine XS.icmpNo X0.here hx rfl (hb hby at_21) rfl (tlt hc21).2.1 ?_
        show Steps p.tables e below (s₁.setTop (mkF m 24 #[.val (.int xx), .val (.int cc), .val (.int fo), .unset, .unset] [])) _
        refine XS.iconst X0.here hx rfl (hb hby at_24) ?_
        show Steps p.tables e below (s₁.setTop (mkF m 25 #[.val (.int xx), .val (.int cc), .val (.int fo), .unset, .unset] [(.int (1 : Int32))])) _
        refine XS.goto X0.here hx rfl (pc0 := 25) (pc' := 29) rfl (hb hby at_25) (by decide) (by decide) ?_
        exact hk
      ·
        refine ⟨(0 : Int32), ((if_neg hc15).trans ((if_neg hc21).trans rfl)).symm, fun t hk => k32 t ?_⟩
        show Steps p.tables e below (s₁.setTop (mkF m 15 #[.val (.int xx), .val (.int cc), .val (.int fo), .unset, .unset] [(.int fo)])) _
        refine XS.ifNo X0.here hx rfl (hb hby at_15) rfl ((if0 _ _).trans (flt hc15).1) ?_
        show Steps p.tables e below (s₁.setTop (mkF m 18 #[.val (.int xx), .val (.int cc), .val (.int fo), .unset, .unset] [])) _
        refine XS.iloadN X0.here hx rfl (hb hby at_18) rfl ?_
        show Steps p.tables e below (s₁.setTop (mkF m 19 #[.val (.int xx), .val (.int cc), .val (.int fo), .unset, .unset] [(.int fo)])) _
        refine XS.bipush X0.here hx rfl (hb hby at_19) ?_
        show Steps p.tables e below (s₁.setTop (mkF m 21 #[.val (.int xx), .val (.int cc), .val (.int fo), .unset, .unset] [(.int (26 : Int32)), (.int fo)])) _
        refine XS.icmpYes X0.here hx rfl (pc0 := 21) (pc' := 28) rfl (hb hby at_21) rfl (flt hc21).2.1 (by decide) (by decide) ?_
        show Steps p.tables e below (s₁.setTop (mkF m 28 #[.val (.int xx), .val (.int cc), .val (.int fo), .unset, .unset] [])) _
        refine XS.iconst X0.here hx rfl (hb hby at_28) ?_
        exact hk
  have k34 : ∀ t, Steps p.tables e below (s₁.setTop (mkF m 33 #[.val (.int xx), .val (.int cc), .val (.int fo), .val (.int al), .unset] [(.int (95 : Int32)), (.int cc)])) t → Steps p.tables e below (s₁.setTop (entryFrame m #[(.int xx)] maxLocals)) t := fun t hk => k33 t (by
    show Steps p.tables e below (s₁.setTop (mkF m 29 #[.val (.int xx), .val (.int cc), .val (.int fo), .unset, .unset] [(.int al)])) _
    refine XS.istoreN X0.here hx rfl (hb hby at_29) rfl (l' := #[.val (.int xx), .val (.int cc), .val (.int fo), .val (.int al), .unset]) rfl ?_
    show Steps p.tables e below (s₁.setTop (mkF m 30 #[.val (.int xx), .val (.int cc), .val (.int fo), .val (.int al), .unset] [])) _
    refine XS.iloadN X0.here hx rfl (hb hby at_30) rfl ?_
    show Steps p.tables e below (s₁.setTop (mkF m 31 #[.val (.int xx), .val (.int cc), .val (.int fo), .val (.int al), .unset] [(.int cc)])) _
    refine XS.bipush X0.here hx rfl (hb hby at_31) ?_
    exact hk)
  obtain ⟨ex, hex, k35⟩ : ∃ (ex : Int32), (ex = (if cc = (95 : Int32) then (1 : Int32) else (if al = (0 : Int32) then (0 : Int32) else (1 : Int32)))) ∧ ∀ t, Steps p.tables e below (s₁.setTop (mkF m 45 #[.val (.int xx), .val (.int cc), .val (.int fo), .val (.int al), .unset] [(.int ex)])) t → Steps p.tables e below (s₁.setTop (entryFrame m #[(.int xx)] maxLocals)) t := by
    by_cases hc33 : cc = (95 : Int32)
    ·
      refine ⟨(1 : Int32), ((if_pos hc33).trans rfl).symm, fun t hk => k34 t ?_⟩
      show Steps p.tables e below (s₁.setTop (mkF m 33 #[.val (.int xx), .val (.int cc), .val (.int fo), .val (.int al), .unset] [(.int (95 : Int32)), (.int cc)])) _
      refine XS.icmpYes X0.here hx rfl (pc0 := 33) (pc' := 40) rfl (hb hby at_33) rfl (teq hc33).1 (by decide) (by decide) ?_
      show Steps p.tables e below (s₁.setTop (mkF m 40 #[.val (.int xx), .val (.int cc), .val (.int fo), .val (.int al), .unset] [])) _
      refine XS.iconst X0.here hx rfl (hb hby at_40) ?_
      show Steps p.tables e below (s₁.setTop (mkF m 41 #[.val (.int xx), .val (.int cc), .val (.int fo), .val (.int al), .unset] [(.int (1 : Int32))])) _
      refine XS.goto X0.here hx rfl (pc0 := 41) (pc' := 45) rfl (hb hby at_41) (by decide) (by decide) ?_
      exact hk
    ·
      by_cases hc37 : al = (0 : Int32)
      ·
        refine ⟨(0 : Int32), ((if_neg hc33).trans ((if_pos hc37).trans rfl)).symm, fun t hk => k34 t ?_⟩
        show Steps p.tables e below (s₁.setTop (mkF m 33 #[.val (.int xx), .val (.int cc), .val (.int fo), .val (.int al), .unset] [(.int (95 : Int32)), (.int cc)])) _
        refine XS.icmpNo X0.here hx rfl (hb hby at_33) rfl (feq hc33).1 ?_
        show Steps p.tables e below (s₁.setTop (mkF m 36 #[.val (.int xx), .val (.int cc), .val (.int fo), .val (.int al), .unset] [])) _
        refine XS.iloadN X0.here hx rfl (hb hby at_36) rfl ?_
        show Steps p.tables e below (s₁.setTop (mkF m 37 #[.val (.int xx), .val (.int cc), .val (.int fo), .val (.int al), .unset] [(.int al)])) _
        refine XS.ifYes X0.here hx rfl (pc0 := 37) (pc' := 44) rfl (hb hby at_37) rfl ((if0 _ _).trans (teq hc37).1) (by decide) (by decide) ?_
        show Steps p.tables e below (s₁.setTop (mkF m 44 #[.val (.int xx), .val (.int cc), .val (.int fo), .val (.int al), .unset] [])) _
        refine XS.iconst X0.here hx rfl (hb hby at_44) ?_
        exact hk
      ·
        refine ⟨(1 : Int32), ((if_neg hc33).trans ((if_neg hc37).trans rfl)).symm, fun t hk => k34 t ?_⟩
        show Steps p.tables e below (s₁.setTop (mkF m 33 #[.val (.int xx), .val (.int cc), .val (.int fo), .val (.int al), .unset] [(.int (95 : Int32)), (.int cc)])) _
        refine XS.icmpNo X0.here hx rfl (hb hby at_33) rfl (feq hc33).1 ?_
        show Steps p.tables e below (s₁.setTop (mkF m 36 #[.val (.int xx), .val (.int cc), .val (.int fo), .val (.int al), .unset] [])) _
        refine XS.iloadN X0.here hx rfl (hb hby at_36) rfl ?_
        show Steps p.tables e below (s₁.setTop (mkF m 37 #[.val (.int xx), .val (.int cc), .val (.int fo), .val (.int al), .unset] [(.int al)])) _
        refine XS.ifNo X0.here hx rfl (hb hby at_37) rfl ((if0 _ _).trans (feq hc37).1) ?_
        show Steps p.tables e below (s₁.setTop (mkF m 40 #[.val (.int xx), .val (.int cc), .val (.int fo), .val (.int al), .unset] [])) _
        refine XS.iconst X0.here hx rfl (hb hby at_40) ?_
        show Steps p.tables e below (s₁.setTop (mkF m 41 #[.val (.int xx), .val (.int cc), .val (.int fo), .val (.int al), .unset] [(.int (1 : Int32))])) _
        refine XS.goto X0.here hx rfl (pc0 := 41) (pc' := 45) rfl (hb hby at_41) (by decide) (by decide) ?_
        exact hk
  obtain ⟨_, _, ⟨T36, L36, k36, n36⟩, -, X36, ⟨Lc36, hQ36, l36, y36, z36⟩, st36⟩ := Jvm.LawKit.callS X0 hx (y := (⟨"com/example/wary_authz/waryauthz/lang/Names", "isIdentifierStart", "(C)Z"⟩ : MethodName)) hown (mvT hZ (hw _ (List.mem_of_getElem? (i := 1) rfl))) (mvT hZ (hw _ (List.mem_of_getElem? (i := 2) rfl))) (mvT hZ (hw _ (List.mem_of_getElem? (i := 3) rfl))) (mvT hZ (hw _ (List.mem_of_getElem? (i := 4) rfl))) (by decide) (backOf (W := 0) (rm1 l Z a0 hw [] cc  h0 n0 Z0 ) hZ (hw _ (List.mem_of_getElem? (i := 4) rfl)) (hw _ (List.mem_of_getElem? (i := 3) rfl)) (by decide) (by decide)) (g := (mkF m 48 #[.val (.int xx), .val (.int cc), .val (.int fo), .val (.int al), .val (.int ex)] [(.int cc)])) rfl (by rw [hml]; rfl) (argsL := [(.int cc)]) (rest := []) (lenOf pd_1 rfl) rfl (by show 2 * 0 + _ ≤ _; exact Nat.le_of_eq rfl) (hb hby at_48) (fun _ _ => ⟨rfl, e0, (by decide : 0 + 0 ≤ _), (by decide : 0 + 0 ≤ _)⟩)
  dsimp only [Pt.U, Pt.locs, Pt.cells, Pt.slots] at X36 l36 y36 z36 st36 hQ36
  subst l36 y36 z36
  obtain ⟨r1, rfl, hr1, N36q, e36⟩ := hQ36
  have N36 := Fr.app N0 N36q
  have k37 : ∀ t, Steps p.tables e below (T36.setTop (mkF m 53 #[.val (.int xx), .val (.int cc), .val (.int fo), .val (.int al), .val (.int ex)] [(.int ex), (.int r1)])) t → Steps p.tables e below (s₁.setTop (entryFrame m #[(.int xx)] maxLocals)) t := fun t hk => k35 t (by
    show Steps p.tables e below (s₁.setTop (mkF m 45 #[.val (.int xx), .val (.int cc), .val (.int fo), .val (.int al), .unset] [(.int ex)])) _
    refine XS.istore X0.here hx rfl (hb hby at_45) rfl (l' := #[.val (.int xx), .val (.int cc), .val (.int fo), .val (.int al), .val (.int ex)]) rfl ?_
    show Steps p.tables e below (s₁.setTop (mkF m 47 #[.val (.int xx), .val (.int cc), .val (.int fo), .val (.int al), .val (.int ex)] [])) _
    refine XS.iloadN X0.here hx rfl (hb hby at_47) rfl ?_
    show Steps p.tables e below (s₁.setTop (mkF m 48 #[.val (.int xx), .val (.int cc), .val (.int fo), .val (.int al), .val (.int ex)] [(.int cc)])) _
    refine st36 _ ?_
    show Steps p.tables e below (T36.setTop (mkF m 51 #[.val (.int xx), .val (.int cc), .val (.int fo), .val (.int al), .val (.int ex)] [(.int r1)])) _
    refine XS.iload X36.here hx rfl (hb hby at_51) rfl ?_
    exact hk)
  have hfin : r1 = ex := own_plain xx cc fo al ex r1 hcc hfo hal hex hr1
  have k38 : ∀ t, Steps p.tables e below (T36.setTop (mkF m 61 #[.val (.int xx), .val (.int cc), .val (.int fo), .val (.int al), .val (.int ex)] [(.int (1 : Int32))])) t → Steps p.tables e below (s₁.setTop (entryFrame m #[(.int xx)] maxLocals)) t := fun t hk => k37 t (by
    show Steps p.tables e below (T36.setTop (mkF m 53 #[.val (.int xx), .val (.int cc), .val (.int fo), .val (.int al), .val (.int ex)] [(.int ex), (.int r1)])) _
    refine XS.icmpNo X36.here hx rfl (hb hby at_53) rfl (teq hfin).2 ?_
    show Steps p.tables e below (T36.setTop (mkF m 56 #[.val (.int xx), .val (.int cc), .val (.int fo), .val (.int al), .val (.int ex)] [])) _
    refine XS.iconst X36.here hx rfl (hb hby at_56) ?_
    show Steps p.tables e below (T36.setTop (mkF m 57 #[.val (.int xx), .val (.int cc), .val (.int fo), .val (.int al), .val (.int ex)] [(.int (1 : Int32))])) _
    refine XS.goto X36.here hx rfl (pc0 := 57) (pc' := 61) rfl (hb hby at_57) (by decide) (by decide) ?_
    exact hk)
  obtain ⟨fs, hr, hrun, hended, hW, hsame⟩ := X36.leave (v := some (.int (nar .boolean (1 : Int32)))) (fun h => by rw [Bd.returns] at h; cases h)
  refine ⟨_, _, k38 _ ?_, hrun, hended, _, _, rfl, ?_, ⟨_, rfl⟩, hW, hsame.mono (by decide) (by decide)⟩
  · show Steps p.tables e below (T36.setTop (mkF m 61 #[.val (.int xx), .val (.int cc), .val (.int fo), .val (.int al), .val (.int ex)] [(.int (1 : Int32))])) _
    exact retN X36 hx (t := .boolean) Bd.returns (by simp) (hb hby at_61) hr
  · show Q0 Z xx h0 n0 _ T36.heap _
    rw [e36]
    exact ⟨rfl, N36⟩
set_option maxRecDepth 65536 in
set_option maxHeartbeats 40000000 in
theorem comes_1 {Post : Tables → Env → Array Value → State → Outcome → State → Prop} (hpost : ∀ tb e args s v u, (limb_1_1.after args s (.returned v) u = true ∧ limb_1_2.after args s (.returned v) u = true ∧ True) → FrameEnd s (.returned v) u (Jvm.fieldLocs frame_1_writes args s ++ Jvm.arrayLocs frame_1_arrays args s ++ Jvm.staticLocs frame_1_statics s) 0 0 → Post tb e args s (.returned v) u) :
    ArmFor flags0 classFile x code maxLocals ret World_1 tables_1 room_1 Calls_1 rest_1 Pre_1 Post := by
  intro l hfl _ _ p e ha hc hk s m args below hf hA hF happ hP
  obtain ⟨hcalls, hrest, hpre⟩ := hP
  obtain ⟨-, -, -, hnamed, -, -, -, hat⟩ := (Spec.applies_iff hf).mp happ
  obtain ⟨hg, hn⟩ := and_e (Cond.before_iff.mp (show (Jvm.Cond.and given_1 narrow_1).before args s = true from hpre))
  obtain ⟨hcnt, hg0⟩ := and_e hg
  have hv0 := hg0
  obtain ⟨w0, rfl⟩ : ∃ w0 : Value, args = #[w0] := by
    have hs : args.size = 1 := by simpa [Cond.value, given_1] using hcnt
    obtain ⟨L⟩ := args
    match L, hs with
    | [w0], _ => exact ⟨w0, rfl⟩
  have hw := fun d (hd : d ∈ tables_1) => atoms_spec (ws := Jvm.Cond.code x code maxLocals ret :: tables_1) hat d (List.mem_cons_of_mem _ hd)
  obtain ⟨i0, ei0⟩ := is_v hv0
  obtain rfl : w0 = (.int i0) := Option.some.inj ei0
  obtain ⟨n, o, h1, h2, h3, _, L, rfl, ⟨rfl, N⟩, hq⟩ := rm0 l s _ hw tables_1 i0 s.heap s.heap.size (Nat.le_refl _)  p e ha hc hk s m _ below hf ((Spec.applies_iff_loose hf).mp happ).1 ⟨rfl, State.Warmed39.refl s, rfl⟩ trivial
  refine ⟨n, _, h1, h2, h3, hpost _ _ _ _ _ _ ⟨Cond.after_iff.mpr rfl, Cond.after_iff.mpr (eq_i res_at (Term.int_eval (1)) rfl), trivial⟩ ⟨hq.1, hq.2.1, (hq.2.2.sift fun y hy => Or.inr (N y hy)).mono (by decide) (by decide)⟩⟩
theorem main_1_1 : Claimed_1_1 := comes_1 fun _ _ _ _ _ _ h hF => ⟨h.1, hF⟩
theorem main_1_2 : Claimed_1_2 := comes_1 fun _ _ _ _ _ _ h hF => ⟨h.2.1, hF⟩
end Jvm.Pilot.@@N@@
namespace Jvm.Pilot.@@N@@
open Jvm Jvm.ClassFile Sem Op Lib Jvm.Free Jvm.Stand Jvm.Pilot.@@N@@.Jvm.D
/-! MADE BY PROGRAM (witnessworld.py) out of the Statement's table words and the real class files: 9 classes; the members and pool entries that the words name. The judged class is class 1, her method 1. -/
namespace start1
open Jvm.ClassFile
def u (s : String) : CpInfo := .utf8 (stringToUtf16 s)
/-- a pool by its gaps: so many unusable entries, then the entry; so many at the end -/
def gap : Nat → List CpInfo → List CpInfo
  | 0, r => r
  | n + 1, r => .unusable :: gap n r
def poolList (es : List (Nat × CpInfo)) (last : Nat) : List CpInfo := es.foldr (fun e r => gap e.1 (e.2 :: r)) (gap last [])
def pool (es : List (Nat × CpInfo)) (last : Nat) : Array CpInfo := ⟨poolList es last⟩
def fileOf (pool : Array CpInfo) (this : Nat) (attrs : Array Attribute := #[]) (ms : Array MethodInfo := #[]) (fl : Nat := 33) (sup : Nat := 0) (ifs : Array Nat := #[]) (fds : Array FieldInfo := #[]) : ClassFile where
  minorVersion := 0
  majorVersion := 65
  constantPool := pool
  accessFlags := fl
  thisClass := this
  superClass := sup
  interfaces := ifs
  fields := fds
  methods := ms
  attributes := attrs
def plain (name : String) (sup : Option ClassId) : Class where
  name := name
  kind := .ordinary
  loader := none
  accessFlags := 33
  super := sup
  interfaces := #[]
  cf := none
  fields := #[]
  methods := #[]
  instanceTypes := #[]
  staticTypes := #[]
  resolved := #[]
  callSites := []
  init := .initialized
  statics := none
  mirror := none

def pool0 : Array CpInfo := pool [(5, u "<init>"), (0, u "()V"), (1, .class_ 10), (1, u "java/lang/Object")] 113

def k0m0 : Method := { name := "<init>", desc := "()V", sig := { parameters := [], returnType := none }, accessFlags := 1, code := none }
/-- java/lang/Object -/
def k0 : Class := { plain "java/lang/Object" none with
  accessFlags := 33
  interfaces := #[]
  cf := some (fileOf pool0 8 #[] #[{ accessFlags := 1, nameIndex := 5, descriptorIndex := 6, attributes := #[] }] 33 0 #[] #[])
  fields := #[]
  methods := #[k0m0]
  instanceTypes := #[]
  staticTypes := #[]
  resolved := Array.replicate 124 none
  statics := none }

def pool1 : Array CpInfo := pool [(2, .class_ 4), (1, u "java/lang/Object"), (0, u "<init>"), (0, u "()V"), (0, .integer 65535), (0, .methodref 9 10), (0, .class_ 11), (0, .nameAndType 12 13), (0, u "com/example/wary_authz/waryauthz/lang/Names"), (0, u "isIdentifierStart"), (0, u "(C)Z"), (0, .class_ 15), (0, u "com/example/wary_authz/waryauthz/lang/NamesIsIdentifierStartPinLaw"), (2, u "law"), (0, u "(I)Z")] 3

def k1m0 : Method := { name := "<init>", desc := "()V", sig := { parameters := [], returnType := none }, accessFlags := 2, code := none }
def k1c1 : Code := { maxStack := 2, maxLocals := 5, code := code, exceptionTable := #[], attributes := #[] }
def k1m1 : Method := { name := "law", desc := "(I)Z", sig := { parameters := [.int], returnType := some .boolean }, accessFlags := 9, code := some k1c1 }
/-- com/example/wary_authz/waryauthz/lang/NamesIsIdentifierStartPinLaw -/
def k1 : Class := { plain "com/example/wary_authz/waryauthz/lang/NamesIsIdentifierStartPinLaw" (some 0) with
  accessFlags := 49
  interfaces := #[]
  cf := some (fileOf pool1 14 #[] #[{ accessFlags := 2, nameIndex := 5, descriptorIndex := 6, attributes := #[] }, { accessFlags := 9, nameIndex := 18, descriptorIndex := 19, attributes := #[] }] 49 2 #[] #[])
  fields := #[]
  methods := #[k1m0, k1m1]
  instanceTypes := #[]
  staticTypes := #[]
  resolved := Array.replicate 23 none
  statics := none }

def pool2 : Array CpInfo := pool [(2, .class_ 4), (1, u "java/lang/Object"), (0, u "<init>"), (0, u "()V"), (9, .class_ 18), (1, u "com/example/wary_authz/waryauthz/lang/Names"), (12, u "isIdentifierStart"), (0, u "(C)Z"), (2, u "RESERVED"), (0, u "Ljava/util/Set;")] 47

def k2m0 : Method := { name := "<init>", desc := "()V", sig := { parameters := [], returnType := none }, accessFlags := 2, code := none }
def k2c1 : Code := { maxStack := 2, maxLocals := 1, code := prog_44_method_5_code, exceptionTable := #[], attributes := #[] }
def k2m1 : Method := { name := "isIdentifierStart", desc := "(C)Z", sig := { parameters := [.char], returnType := some .boolean }, accessFlags := 8, code := some k2c1 }
/-- com/example/wary_authz/waryauthz/lang/Names -/
def k2 : Class := { plain "com/example/wary_authz/waryauthz/lang/Names" (some 0) with
  accessFlags := 49
  interfaces := #[]
  cf := some (fileOf pool2 16 #[] #[{ accessFlags := 2, nameIndex := 5, descriptorIndex := 6, attributes := #[] }, { accessFlags := 8, nameIndex := 31, descriptorIndex := 32, attributes := #[] }] 49 2 #[] #[{ accessFlags := 26, nameIndex := 35, descriptorIndex := 36, attributes := #[] }])
  fields := #[{ name := "RESERVED", type := (.object "java/util/Set"), accessFlags := 26, slot := 0, constantValue := 0 }]
  methods := #[k2m0, k2m1]
  instanceTypes := #[]
  staticTypes := #[(.object "java/util/Set")]
  resolved := Array.replicate 84 none
  statics := none }

def pool3 : Array CpInfo := pool [(1, u "java/lang/Cloneable"), (0, .class_ 1), (0, u "java/lang/Object"), (0, .class_ 3)] 3

/-- java/lang/Cloneable -/
def k3 : Class := { plain "java/lang/Cloneable" (some 0) with
  accessFlags := 1537
  interfaces := #[]
  cf := some (fileOf pool3 2 #[] #[] 1537 4 #[] #[])
  fields := #[]
  methods := #[]
  instanceTypes := #[]
  staticTypes := #[]
  resolved := Array.replicate 8 none
  statics := none }

def pool4 : Array CpInfo := pool [(1, u "java/io/Serializable"), (0, .class_ 1), (0, u "java/lang/Object"), (0, .class_ 3)] 3

/-- java/io/Serializable -/
def k4 : Class := { plain "java/io/Serializable" (some 0) with
  accessFlags := 1537
  interfaces := #[]
  cf := some (fileOf pool4 2 #[] #[] 1537 4 #[] #[])
  fields := #[]
  methods := #[]
  instanceTypes := #[]
  staticTypes := #[]
  resolved := Array.replicate 8 none
  statics := none }

/-- the primitive byte -/
def k5 : Class := { plain "byte" none with kind := .primitive 'B', accessFlags := 0x411 }
/-- [B -/
def k6 : Class := { plain "[B" (some 0) with kind := .array 5 .byte, interfaces := #[3, 4], accessFlags := 1041 }

/-- the primitive int -/
def k7 : Class := { plain "int" none with kind := .primitive 'I', accessFlags := 0x411 }
/-- [I -/
def k8 : Class := { plain "[I" (some 0) with kind := .array 7 .int, interfaces := #[3, 4], accessFlags := 1041 }

def heap : Heap := #[]
def classes : Array Class := #[k0, k1, k2, k3, k4, k5, k6, k7, k8]
def interned : List (Array UInt16 × Addr) := []
def slotsUsed : Nat := 0
def theMethod : MethodId := ⟨1, 1⟩
def args0 : Array Value := #[.int 65]
def aboutOver (below : List Frame) : State where
  vm := { classes := classes, interned := interned.toArray }
  heap := heap
  slotsUsed := slotsUsed
  threads := #[{ frames := .invoking theMethod args0 :: below }]
def below0 : List Frame := [.native { method := ⟨0, 0⟩, args := #[] }]
def about1 : State := aboutOver below0
def p0 : Program := .bare "" "" ""
def e0 : Env := launch0.env 0 0 0
theorem w_frames : about1.frames = Frame.invoking theMethod args0 :: below0 := rfl
set_option maxRecDepth 65536 in
theorem w_args : argsFit about1.vm theMethod args0 = true := by decide +kernel
set_option maxRecDepth 65536 in
theorem w_heap : heapFits about1 = true := by decide +kernel
set_option maxRecDepth 65536 in
theorem w_runnable : about1.curStatus? = some .runnable := by decide +kernel
set_option maxRecDepth 65536 in
theorem w_alone : about1.alone = true := by decide +kernel
set_option maxRecDepth 65536 in
theorem w_named : about1.methodNamed? x = some theMethod := by decide +kernel
set_option maxRecDepth 65536 in
theorem w_hears : about1.hears theMethod below0 = true := by decide +kernel
set_option maxRecDepth 65536 in
theorem w_ripe : about1.ripe theMethod args0 below0 = true := by decide +kernel
theorem w_running : about1.status = .running := rfl
set_option maxRecDepth 65536 in
theorem w_room : about1.hasRoom e0.platform room_1 = true :=
  launch0.hasRoom_least _ room_1 (by decide +kernel) (by decide +kernel) (by decide +kernel) (by decide +kernel) (by decide +kernel) (by decide +kernel)
theorem allAtoms_all (ts : List Jvm.Cond) (a : Array Jvm.Value) (st : Jvm.State) : (allAtoms ts).before a st = ts.all (fun c => c.before a st) := by
  induction ts with
  | nil => rfl
  | cons c t ih =>
    show (Jvm.Cond.and c (allAtoms t)).before a st = _
    rw [Jvm.Cond.before_and, ih, List.all_cons]
def words1 : List Jvm.Cond := Jvm.Cond.code x code maxLocals ret :: tables_1
/-- a 'code' word, met by the world's own term for the bytes: nothing is compared byte by byte -/
theorem code_word {y : MethodName} {bytes : ByteArray} {mx : Nat} {rt : Option FieldType} {a : Array Value} {s : State} {m : MethodId} {meth : Method} {c : Code} (h1 : s.methodNamed? y = some m) (h2 : s.vm.method? m = some meth) (h3 : meth.code = some c) (h4 : c.code = bytes)
    (h5 : (c.maxLocals == mx && c.exceptionTable.isEmpty && decide (c.maxStack ≤ mostOperands) && decide (meth.sig.returnType = rt) && !meth.locks && decide (parseMethodDescriptor y.desc = some meth.sig)) = true) : (Jvm.Cond.code y bytes mx rt).before a s = true := by
  simp only [Bool.and_eq_true, beq_iff_eq, Bool.not_eq_true', decide_eq_true_eq] at h5
  obtain ⟨⟨⟨⟨⟨g1, g2⟩, g3⟩, g4⟩, g5⟩, g6⟩ := h5
  simp [Cond.before, Cond.holds, Cond.value, h1, h2, h3, h4, g1, g2, g3, g4, g5, g6]
def isCode : Jvm.Cond → Bool
  | .code _ _ _ _ => true
  | _ => false
theorem all_split {L : List Jvm.Cond} {P : Jvm.Cond → Bool} (h1 : L.all (fun c => isCode c || P c) = true) (h2 : ∀ c ∈ L.filter isCode, P c = true) : L.all P = true := by
  refine List.all_eq_true.mpr fun c hc => ?_
  have h := List.all_eq_true.mp h1 c hc
  rcases Bool.eq_false_or_eq_true (isCode c) with hi | hi
  · exact h2 c (List.mem_filter.mpr ⟨hc, hi⟩)
  · simpa [hi] using h
set_option maxRecDepth 65536 in
theorem w_c0 : (Jvm.Cond.code x code maxLocals ret).before args0 about1 = true := code_word (m := ⟨1, 1⟩) (meth := k1m1) (c := k1c1) (by decide +kernel) rfl rfl rfl (by decide +kernel)
set_option maxRecDepth 65536 in
theorem w_c1 : (Jvm.Cond.code ({ cls := "com/example/wary_authz/waryauthz/lang/Names", name := "isIdentifierStart", desc := "(C)Z" } : Jvm.MethodName) prog_44_method_5_code (1 : Nat) (Option.some Jvm.ClassFile.FieldType.boolean)).before args0 about1 = true := code_word (m := ⟨2, 1⟩) (meth := k2m1) (c := k2c1) (by decide +kernel) rfl rfl rfl (by decide +kernel)
def codes1 : List Jvm.Cond := [Jvm.Cond.code x code maxLocals ret, Jvm.Cond.code ({ cls := "com/example/wary_authz/waryauthz/lang/Names", name := "isIdentifierStart", desc := "(C)Z" } : Jvm.MethodName) prog_44_method_5_code (1 : Nat) (Option.some Jvm.ClassFile.FieldType.boolean)]
set_option maxRecDepth 65536 in
theorem codes_eq : words1.filter isCode = codes1 := rfl
theorem w_codes : ∀ c ∈ words1.filter isCode, c.before args0 about1 = true := by
  rw [codes_eq]
  intro c hc
  simp only [codes1, List.mem_cons, List.not_mem_nil, or_false] at hc
  rcases hc with rfl | rfl
  · exact w_c0
  · exact w_c1
set_option maxRecDepth 65536 in
theorem w_t1 : words1.all (fun c => isCode c || c.before args0 about1) = true := by decide +kernel
theorem w_tables : (allAtoms (Jvm.Cond.code x code maxLocals ret :: tables_1)).before args0 about1 = true := by
  rw [allAtoms_all]
  show words1.all (fun c => c.before args0 about1) = true
  refine all_split ?_ w_codes
  rw [w_t1]
set_option maxRecDepth 65536 in
theorem w_case : (Jvm.Cond.and given_1 narrow_1).before args0 about1 = true := by decide +kernel
theorem w_applies : (headSpec (Jvm.Cond.code x code maxLocals ret :: tables_1) room_1).applies x e0.platform about1 = true :=
  (Spec.applies_iff w_frames).mpr ⟨w_running, w_runnable, w_alone, w_named, w_hears, w_ripe, w_room, w_tables⟩
theorem atStart : AtStart classFile x code maxLocals ret World_1 tables_1 room_1 Calls_1 rest_1 Pre_1 launch0 p0 e0 about1 theMethod args0 below0 :=
  ⟨lists_1, trivial, launch0.admits_env _ _ _, launch0.least_env, fairChoices_fair.cas, fairChoices_fair.clock, w_frames, w_args, w_heap, w_applies, trivial, trivial, w_case⟩
end start1
theorem witness_1 : WitnessClaimed_1 := ⟨start1.p0, start1.e0, start1.about1, start1.theMethod, start1.args0, start1.below0, start1.atStart⟩
end Jvm.Pilot.@@N@@
