import JvmDerived
import JvmDerived.Pilot.@@N@@Statement
import JvmDerived.Pilot.@@N@@Code
set_option linter.unusedVariables false
set_option linter.unusedSimpArgs false
namespace Jvm.RoadKit
open Sem ClassFile Op Lib Jvm.Stand Jvm.Free Jvm.LawKit
section New
variable {p : Program} {l : Launch} {e : Env} {R : Room} {s : State} {m : MethodId} {args : Array Value} {below : List Frame} {meth : Method} {c : Code} {T : State} {locs : List Loc} {cells slots : Nat}
theorem retI (X : Stand p l e R s m args below meth c T locs cells slots) (hx : p.tables.exec = Jvm.exec) {pc : Nat} {Ls : Array Slot} {z : Int32} {rest : List Value} (hret : meth.sig.returnType = some .int) (hd : decode c.code pc = .ok (.ireturn, 1)) {fs : List Frame}
    (hl : ∀ (f : JFrame) (acts : List Action), f.method = m → f.locked = none → f.entered = [] → (doReturn e (T.setTop f) acts (some (.int z))).1 = T.setFrames fs) : Steps p.tables e below (T.setTop (mkF m pc Ls (.int z :: rest))) (T.setFrames fs) := by
  have hm' : T.vm.method? m = some meth := X.method'
  have hn : narrow .int (.int z) = .int z := rfl
  show Steps p.tables e below (T.setTop { method := m, pc := pc, locals := Ls, stack := _ :: rest, locked := none }) _
  jvm_step X.here [X.here.top, hx, hd, hm', hret, hn]
  first | (intro acts; rw [hl _ acts rfl rfl rfl]) | rw [hl _ _ rfl rfl rfl]
  exact Steps.refl _
theorem own_lremM {g : JFrame} {target : State} (X : Stand p l e R s m args below meth c T locs cells slots) (hx : p.tables.exec = Jvm.exec) (hg : g.method = m) {x y : Int64} {rest : List Value} (hd : decode c.code g.pc = .ok (.lrem, 1)) (hs : g.stack = .long y :: .long x :: rest) (hy : y ≠ 0)
    (hr : Steps p.tables e below (T.setTop { g with pc := g.pc + 1, stack := .long (x % y) :: rest }) target) : Steps p.tables e below (T.setTop g) target := by
  have q : x - x / y * y = x % y := lrem_mod x y
  exact XS.lrem X.here hx hg hd hs hy (by rw [q]; exact hr)
end New
end Jvm.RoadKit
namespace Jvm.RoadKit
open Sem ClassFile Op Lib Jvm.Stand Jvm.Free Jvm.LawKit
section OwnArr
variable {p : Program} {l : Launch} {e : Env} {R : Room} {s : State} {m : MethodId} {args : Array Value} {below : List Frame} {meth : Method} {c : Code} {T : State} {locs : List Loc} {cells slots : Nat} {Z : State} {a0 : Array Value} {h h' : Heap} {a b : Addr} {ty : FieldType} {n : Nat} {f f' : Nat → Value} {ws : List Addr} {sl : Nat} {v : Value} {j : Int32} {k : Nat}
def OwnAV (Z : State) (h : Heap) (a : Addr) (ty : FieldType) (n : Nat) (f : Nat → Value) : Prop := ∃ c : Cell, Arr Z h a c ty ∧ c.slots.size = n ∧ n < 2147483648 ∧ ∀ j, j < n → c.slots[j]? = some (f j)
theorem OwnAV.lt (F : OwnAV Z h a ty n f) : a < h.size := by obtain ⟨c, A, -⟩ := F; exact A.lt
theorem OwnAV.ext (F : OwnAV Z h a ty n f) (E : Ext h h') : OwnAV Z h' a ty n f := by obtain ⟨c, A, r⟩ := F; exact ⟨c, A.ext E, r⟩
theorem OwnAV.other (F : OwnAV Z h b ty n f) (W : Wr h h' a sl v) (q : b ≠ a) : OwnAV Z h' b ty n f := by obtain ⟨c, A, r⟩ := F; exact ⟨c, A.other W q, r⟩
theorem OwnAV.keep (F : OwnAV Z h a ty n f) (K : Keep h h' ws) (q : a ∉ ws) : OwnAV Z h' a ty n f := by obtain ⟨c, A, r⟩ := F; exact ⟨c, ⟨K.2.1 a c A.1 q, A.2⟩, r⟩
theorem OwnAV.congr (F : OwnAV Z h a ty n f) (q : ∀ j, j < n → f j = f' j) : OwnAV Z h a ty n f' := by obtain ⟨c, A, S, N, H⟩ := F; exact ⟨c, A, S, N, fun j hj => by rw [← q j hj]; exact H j hj⟩
theorem OwnAV.new {cA : ClassId} {z : Int32} (A : Arr Z h a (newA cA ty z) ty) (hz : z.toNatClampNeg = n) (hn : n < 2147483648) : OwnAV Z h a ty n (fun _ => defaultValue ty) := ⟨_, A, by rw [sz_new, hz], hn, fun j hj => by
  subst hz; simp [newA, hj]⟩
theorem OwnAV.store (F : OwnAV Z h a ty n f) (W : Wr h h' a k v) : OwnAV Z h' a ty n (fun i => if i = k then v else f i) := by
  obtain ⟨c, A, S, N, H⟩ := F
  refine ⟨c.setSlot k v, A.same W, by rw [sz_set, S], N, fun j hj => ?_⟩
  by_cases q : j = k
  · subst q
    simp [Cell.setSlot, Array.getElem?_setIfInBounds, S, hj]
  · simp [Cell.setSlot, Array.getElem?_setIfInBounds, q, Ne.symm q, H j hj]
def own_upd {α : Type} (F : Nat → α) (k : Nat) (x : α) : Nat → α := fun i => if i = k then x else F i
theorem own_upd_at {α : Type} (F : Nat → α) (k : Nat) (x : α) : own_upd F k x k = x := if_pos rfl
theorem own_upd_ne {α : Type} (F : Nat → α) {k i : Nat} (x : α) (q : i ≠ k) : own_upd F k x i = F i := if_neg q
theorem OwnAV.storeI {F : Nat → Int32} {x : Int32} (V : OwnAV Z h a ty n (fun i => .int (F i))) (W : Wr h h' a k (.int x)) : OwnAV Z h' a ty n (fun i => .int (own_upd F k x i)) :=
  (V.store W).congr fun i _ => by by_cases q : i = k <;> simp [own_upd, q]
theorem OwnAV.storeJ {F : Nat → Int64} {x : Int64} (V : OwnAV Z h a ty n (fun i => .long (F i))) (W : Wr h h' a k (.long x)) : OwnAV Z h' a ty n (fun i => .long (own_upd F k x i)) :=
  (V.store W).congr fun i _ => by by_cases q : i = k <;> simp [own_upd, q]
def OwnIdx (j : Int32) (k n : Nat) : Prop := ¬ j < 0 ∧ j.toNatClampNeg = k ∧ k < n
theorem own_idx {j : Int32} {n : Nat} (h0 : 0 ≤ j.toInt) (h1 : j.toInt < n) : OwnIdx j j.toInt.toNat n := by
  refine ⟨fun q => ?_, rfl, by omega⟩
  rw [Int32.lt_iff_toInt_lt, Int32.toInt_zero] at q
  omega
theorem own_idxN {i n : Nat} (h : i < n) (hn : n < 2147483648) : OwnIdx (Int32.ofNat i) i n := by
  have q : (Int32.ofNat i).toInt = i := Int32.toInt_ofNat_of_lt (by omega)
  refine ⟨fun r => ?_, ?_, h⟩
  · rw [Int32.lt_iff_toInt_lt, Int32.toInt_zero, q] at r; omega
  · rw [Int32.toNatClampNeg, q]; rfl
theorem OwnAV.inb {c : Cell} (S : c.slots.size = n) (I : OwnIdx j k n) : ¬ (j < 0 ∨ c.slots.size ≤ j.toNatClampNeg) := by
  rintro (q | q)
  · exact I.1 q
  · rw [S, I.2.1] at q; exact absurd I.2.2 (by omega)
theorem own_len (X : Stand p l e R s m args below meth c T locs cells slots) (hx : p.tables.exec = Jvm.exec) (hZ : Z.Warmed39 s.vm) (eT : T.heap = h) (V : OwnAV Z h a ty n f) {g : JFrame} (hg : g.method = m) {rest : List Value} (hs : g.stack = .ref a :: rest) (hd : decode c.code g.pc = .ok (.arraylength, 1)) (target : State)
    (hr : Steps p.tables e below (T.setTop { g with pc := g.pc + 1, stack := .int (Int32.ofNat n) :: rest }) target) : Steps p.tables e below (T.setTop g) target := by
  obtain ⟨cl, A, S, -, -⟩ := V
  refine X.arraylength hx (by rw [eT]; exact A.1) (State.isArrayOf_alike hZ.alike A.2.1) hg hs hd _ ?_
  rw [S]; exact hr
theorem own_iald (X : Stand p l e R s m args below meth c T locs cells slots) (hx : p.tables.exec = Jvm.exec) (hZ : Z.Warmed39 s.vm) (eT : T.heap = h) (V : OwnAV Z h a .int n f) (I : OwnIdx j k n) (hv : f k = v) {g : JFrame} (hg : g.method = m) {rest : List Value} (hs : g.stack = .int j :: .ref a :: rest) (hd : decode c.code g.pc = .ok (.iaload, 1)) (target : State)
    (hr : Steps p.tables e below (T.setTop { g with pc := g.pc + 1, stack := v :: rest }) target) : Steps p.tables e below (T.setTop g) target := by
  obtain ⟨cl, A, S, -, H⟩ := V
  exact X.iaload hx (by rw [eT]; exact A.1) (State.isArrayOf_alike hZ.alike A.2.1) A.2.2 (OwnAV.inb S I) (by rw [I.2.1, H k I.2.2, hv]) hg hs hd _ hr
theorem own_lald (X : Stand p l e R s m args below meth c T locs cells slots) (hx : p.tables.exec = Jvm.exec) (hZ : Z.Warmed39 s.vm) (eT : T.heap = h) (V : OwnAV Z h a .long n f) (I : OwnIdx j k n) (hv : f k = v) {g : JFrame} (hg : g.method = m) {rest : List Value} (hs : g.stack = .int j :: .ref a :: rest) (hd : decode c.code g.pc = .ok (.laload, 1)) (target : State)
    (hr : Steps p.tables e below (T.setTop { g with pc := g.pc + 1, stack := v :: rest }) target) : Steps p.tables e below (T.setTop g) target := by
  obtain ⟨cl, A, S, -, H⟩ := V
  exact X.laload hx (by rw [eT]; exact A.1) (State.isArrayOf_alike hZ.alike A.2.1) A.2.2 (OwnAV.inb S I) (by rw [I.2.1, H k I.2.2, hv]) hg hs hd _ hr
theorem own_bald (X : Stand p l e R s m args below meth c T locs cells slots) (hx : p.tables.exec = Jvm.exec) (hZ : Z.Warmed39 s.vm) (eT : T.heap = h) (V : OwnAV Z h a .byte n f) (I : OwnIdx j k n) (hv : f k = v) {g : JFrame} (hg : g.method = m) {rest : List Value} (hs : g.stack = .int j :: .ref a :: rest) (hd : decode c.code g.pc = .ok (.baload, 1)) (target : State)
    (hr : Steps p.tables e below (T.setTop { g with pc := g.pc + 1, stack := v :: rest }) target) : Steps p.tables e below (T.setTop g) target := by
  obtain ⟨cl, A, S, -, H⟩ := V
  exact X.baloadBytes hx (by rw [eT]; exact A.1) (State.isArrayOf_alike hZ.alike A.2.1) A.2.2 (OwnAV.inb S I) (by rw [I.2.1, H k I.2.2, hv]) hg hs hd _ hr
theorem own_iast (X : Stand p l e R s m args below meth c T locs cells slots) (hx : p.tables.exec = Jvm.exec) (hZ : Z.Warmed39 s.vm) (eT : T.heap = h) (V : OwnAV Z h a .int n f) (I : OwnIdx j k n) {x : Int32} {g : JFrame} (hg : g.method = m) {rest : List Value} (hs : g.stack = .int x :: .int j :: .ref a :: rest) (hd : decode c.code g.pc = .ok (.iastore, 1)) :
    ∃ T' h', Stand p l e R s m args below meth c T' (locs ++ [⟨a, k⟩]) cells slots ∧ T'.heap = h' ∧ Wr h h' a k (.int x) ∧ ∀ target, Steps p.tables e below (T'.setTop { g with pc := g.pc + 1, stack := rest }) target → Steps p.tables e below (T.setTop g) target := by
  obtain ⟨cl, A, S, -, -⟩ := V
  have q := stI X hx hZ eT A (OwnAV.inb S I) hg hs hd
  rw [I.2.1] at q; exact q
theorem own_last (X : Stand p l e R s m args below meth c T locs cells slots) (hx : p.tables.exec = Jvm.exec) (hZ : Z.Warmed39 s.vm) (eT : T.heap = h) (V : OwnAV Z h a .long n f) (I : OwnIdx j k n) {x : Int64} {g : JFrame} (hg : g.method = m) {rest : List Value} (hs : g.stack = .long x :: .int j :: .ref a :: rest) (hd : decode c.code g.pc = .ok (.lastore, 1)) :
    ∃ T' h', Stand p l e R s m args below meth c T' (locs ++ [⟨a, k⟩]) cells slots ∧ T'.heap = h' ∧ Wr h h' a k (.long x) ∧ ∀ target, Steps p.tables e below (T'.setTop { g with pc := g.pc + 1, stack := rest }) target → Steps p.tables e below (T.setTop g) target := by
  obtain ⟨cl, A, S, -, -⟩ := V
  have q := stJ X hx hZ eT A (OwnAV.inb S I) hg hs hd
  rw [I.2.1] at q; exact q
theorem own_bast (X : Stand p l e R s m args below meth c T locs cells slots) (hx : p.tables.exec = Jvm.exec) (hZ : Z.Warmed39 s.vm) (eT : T.heap = h) (V : OwnAV Z h a .byte n f) (I : OwnIdx j k n) {x : Int32} {g : JFrame} (hg : g.method = m) {rest : List Value} (hs : g.stack = .int x :: .int j :: .ref a :: rest) (hd : decode c.code g.pc = .ok (.bastore, 1)) :
    ∃ T' h', Stand p l e R s m args below meth c T' (locs ++ [⟨a, k⟩]) cells slots ∧ T'.heap = h' ∧ Wr h h' a k (.int (nar .byte x)) ∧ ∀ target, Steps p.tables e below (T'.setTop { g with pc := g.pc + 1, stack := rest }) target → Steps p.tables e below (T.setTop g) target := by
  obtain ⟨cl, A, S, -, -⟩ := V
  have q := stB X hx hZ eT A (OwnAV.inb S I) hg hs hd
  rw [I.2.1] at q; exact q
end OwnArr
end Jvm.RoadKit
namespace Jvm.Pilot.@@N@@
open Jvm Jvm.ClassFile Sem Op Lib Jvm.Free Jvm.Stand Jvm.LawKit Jvm.RoadKit Bundle Jvm.Pilot.@@N@@.Jvm.D

theorem own_nar {r : Int32} (h : r = 0 ∨ r = 1) : nar .boolean r = r := by rcases h with rfl | rfl <;> rfl
theorem pd_1 : parseMethodDescriptor "([BII)J" = some ⟨[(.array .byte), .int, .int], some .long⟩ := by decide +kernel
theorem pd_2 : parseMethodDescriptor "(II)I" = some ⟨[.int, .int], some .int⟩ := by decide +kernel
theorem d2_0 : decode jdk_29_method_69_code 0 = .ok (.iload_n 0, 1) := by decide +kernel
theorem d2_1 : decode jdk_29_method_69_code 1 = .ok (.iload_n 1, 1) := by decide +kernel
theorem d2_2 : decode jdk_29_method_69_code 2 = .ok (.if_icmp .gt 7, 3) := by decide +kernel
theorem d2_5 : decode jdk_29_method_69_code 5 = .ok (.iload_n 0, 1) := by decide +kernel
theorem d2_6 : decode jdk_29_method_69_code 6 = .ok (.goto 4, 3) := by decide +kernel
theorem d2_9 : decode jdk_29_method_69_code 9 = .ok (.iload_n 1, 1) := by decide +kernel
theorem d2_10 : decode jdk_29_method_69_code 10 = .ok (.ireturn, 1) := by decide +kernel
theorem ef_2 (m : MethodId) (q1 : Int32) (q2 : Int32) : entryFrame m #[(.int q1), (.int q2)] 2 = (mkF m 0 #[.val (.int q1), .val (.int q2)] []) := by first | (simp [entryFrame, mkF, argsToLocals, Value.category]; done) | rfl
def Q2 (Z : State) (q1 : Int32) (q2 : Int32) (h0 : Heap) (n0 : Nat) (v : Option Value) (h : Heap) (L : List Loc) : Prop := ∃ r : Int32, v = some (.int r) ∧ r = (if q2 < q1 then q2 else q1) ∧ Fr n0 L ∧ h = h0
set_option maxRecDepth 65536 in
set_option maxHeartbeats 40000000 in
theorem rm2 (l : Launch) (Z : State) (a0 : Array Value) (hw : ∀ d ∈ tables_1, d.before a0 Z = true) (ws : List Jvm.Cond) (q1 : Int32) (q2 : Int32) (h0 : Heap) (n0 : Nat) (Z0 : n0 ≤ h0.size)  :
    MetFree l (⟨"java/lang/Math", "min", "(II)I"⟩ : MethodName) (head1 (Jvm.Cond.code (⟨"java/lang/Math", "min", "(II)I"⟩ : MethodName) jdk_29_method_69_code 2 (some .int) :: ws) ({ frames := 0, cells := 0, slots := 0, locals := 0 } : Room)) (fun a U => a = #[(.int q1), (.int q2)] ∧ Z.Warmed39 U.vm ∧ U.heap = h0) (fun _ _ _ _ _ => True) (fun _ U o U' => ∃ v L, o = .returned v ∧ Q2 Z q1 q2 h0 n0 v U'.heap L ∧ FrameEnd U o U' L ({ frames := 0, cells := 0, slots := 0, locals := 0 } : Room).cells ({ frames := 0, cells := 0, slots := 0, locals := 0 } : Room).slots) := by
  refine MetFree.of_bodySF (Jvm.Free.JP.mathPlain rfl (by decide +kernel)) hisR ?_
  intro p e s m args below meth c s₁ Bd hml0 hP hK
  obtain ⟨rfl, hZ, hh⟩ := hP
  have hx := Bd.exec
  have hby := Bd.bytes
  have hml : c.maxLocals = 2 := hml0
  have hown : s.vm.findClass "java/lang/Math" = some m.cls := findClass_of_methodNamed Bd.named
  have hnm := (name_of_methodNamed Bd.named Bd.method).1
  have X0 : Stand p l e ({ frames := 0, cells := 0, slots := 0, locals := 0 } : Room) s m #[(.int q1), (.int q2)] below meth c s₁ [] 0 0 := Stand.of_body Bd
  have e0 : s₁.heap = h0 := by rw [← hh, Bd.state]; rfl
  have N0 := Fr.nil n0
  have pre0 : ∀ t, Steps p.tables e below (s₁.setTop (mkF m 0 #[.val (.int q1), .val (.int q2)] [])) t → Steps p.tables e below (s₁.setTop (entryFrame m #[(.int q1), (.int q2)] 2)) t := fun t k => castTop (ef_2 m q1 q2) k
  have k39 : ∀ t, Steps p.tables e below (s₁.setTop (mkF m 2 #[.val (.int q1), .val (.int q2)] [(.int q2), (.int q1)])) t → Steps p.tables e below (s₁.setTop (entryFrame m #[(.int q1), (.int q2)] 2)) t := fun t hk => pre0 t (by
    show Steps p.tables e below (s₁.setTop (mkF m 0 #[.val (.int q1), .val (.int q2)] [])) _
    refine XS.iloadN X0.here hx rfl (hb hby d2_0) rfl ?_
    show Steps p.tables e below (s₁.setTop (mkF m 1 #[.val (.int q1), .val (.int q2)] [(.int q1)])) _
    refine XS.iloadN X0.here hx rfl (hb hby d2_1) rfl ?_
    exact hk)
  obtain ⟨r0, hr0, k40⟩ : ∃ (r0 : Int32), (r0 = (if q2 < q1 then q2 else q1)) ∧ ∀ t, Steps p.tables e below (s₁.setTop (mkF m 10 #[.val (.int q1), .val (.int q2)] [(.int r0)])) t → Steps p.tables e below (s₁.setTop (entryFrame m #[(.int q1), (.int q2)] 2)) t := by
    by_cases hc2 : q2 < q1
    ·
      refine ⟨q2, ((if_pos hc2).trans rfl).symm, fun t hk => k39 t ?_⟩
      show Steps p.tables e below (s₁.setTop (mkF m 2 #[.val (.int q1), .val (.int q2)] [(.int q2), (.int q1)])) _
      refine XS.icmpYes X0.here hx rfl (pc0 := 2) (pc' := 9) rfl (hb hby d2_2) rfl (tlt hc2).2.2.1 (by decide) (by decide) ?_
      show Steps p.tables e below (s₁.setTop (mkF m 9 #[.val (.int q1), .val (.int q2)] [])) _
      refine XS.iloadN X0.here hx rfl (hb hby d2_9) rfl ?_
      exact hk
    ·
      refine ⟨q1, ((if_neg hc2).trans rfl).symm, fun t hk => k39 t ?_⟩
      show Steps p.tables e below (s₁.setTop (mkF m 2 #[.val (.int q1), .val (.int q2)] [(.int q2), (.int q1)])) _
      refine XS.icmpNo X0.here hx rfl (hb hby d2_2) rfl (flt hc2).2.2.1 ?_
      show Steps p.tables e below (s₁.setTop (mkF m 5 #[.val (.int q1), .val (.int q2)] [])) _
      refine XS.iloadN X0.here hx rfl (hb hby d2_5) rfl ?_
      show Steps p.tables e below (s₁.setTop (mkF m 6 #[.val (.int q1), .val (.int q2)] [(.int q1)])) _
      refine XS.goto X0.here hx rfl (pc0 := 6) (pc' := 10) rfl (hb hby d2_6) (by decide) (by decide) ?_
      exact hk
  obtain ⟨fs, hr, hrun, hended, hW, hsame⟩ := X0.leave (v := some (.int r0)) (fun h => by rw [Bd.returns] at h; cases h)
  refine ⟨_, _, k40 _ ?_, hrun, hended, _, _, rfl, ?_, ⟨_, rfl⟩, hW, hsame.mono (by decide) (by decide)⟩
  · show Steps p.tables e below (s₁.setTop (mkF m 10 #[.val (.int q1), .val (.int q2)] [(.int r0)])) _
    exact retI X0 hx Bd.returns (hb hby d2_10) hr
  · show Q2 Z q1 q2 h0 n0 _ s₁.heap _
    rw [e0]
    exact ⟨_, rfl, hr0, N0, rfl⟩
theorem d1_0 : decode prog_110_method_10_code 0 = .ok (.lconst 0, 1) := by decide +kernel
theorem d1_1 : decode prog_110_method_10_code 1 = .ok (.lstore_n 3, 1) := by decide +kernel
theorem d1_2 : decode prog_110_method_10_code 2 = .ok (.iconst 0, 1) := by decide +kernel
theorem d1_3 : decode prog_110_method_10_code 3 = .ok (.istore 5, 2) := by decide +kernel
theorem d1_5 : decode prog_110_method_10_code 5 = .ok (.iload 5, 2) := by decide +kernel
theorem d1_7 : decode prog_110_method_10_code 7 = .ok (.bipush 8, 2) := by decide +kernel
theorem d1_9 : decode prog_110_method_10_code 9 = .ok (.if_icmp .ge 36, 3) := by decide +kernel
theorem d1_12 : decode prog_110_method_10_code 12 = .ok (.lload_n 3, 1) := by decide +kernel
theorem d1_13 : decode prog_110_method_10_code 13 = .ok (.bipush 8, 2) := by decide +kernel
theorem d1_15 : decode prog_110_method_10_code 15 = .ok (.lshl, 1) := by decide +kernel
theorem d1_16 : decode prog_110_method_10_code 16 = .ok (.iload 5, 2) := by decide +kernel
theorem d1_18 : decode prog_110_method_10_code 18 = .ok (.iload_n 2, 1) := by decide +kernel
theorem d1_19 : decode prog_110_method_10_code 19 = .ok (.if_icmp .ge 16, 3) := by decide +kernel
theorem d1_22 : decode prog_110_method_10_code 22 = .ok (.aload_n 0, 1) := by decide +kernel
theorem d1_23 : decode prog_110_method_10_code 23 = .ok (.iload_n 1, 1) := by decide +kernel
theorem d1_24 : decode prog_110_method_10_code 24 = .ok (.iload 5, 2) := by decide +kernel
theorem d1_26 : decode prog_110_method_10_code 26 = .ok (.iadd, 1) := by decide +kernel
theorem d1_27 : decode prog_110_method_10_code 27 = .ok (.baload, 1) := by decide +kernel
theorem d1_28 : decode prog_110_method_10_code 28 = .ok (.sipush 255, 3) := by decide +kernel
theorem d1_31 : decode prog_110_method_10_code 31 = .ok (.iand, 1) := by decide +kernel
theorem d1_32 : decode prog_110_method_10_code 32 = .ok (.goto 4, 3) := by decide +kernel
theorem d1_35 : decode prog_110_method_10_code 35 = .ok (.iconst 0, 1) := by decide +kernel
theorem d1_36 : decode prog_110_method_10_code 36 = .ok (.i2l, 1) := by decide +kernel
theorem d1_37 : decode prog_110_method_10_code 37 = .ok (.lor, 1) := by decide +kernel
theorem d1_38 : decode prog_110_method_10_code 38 = .ok (.lstore_n 3, 1) := by decide +kernel
theorem d1_39 : decode prog_110_method_10_code 39 = .ok (.iinc 5 1, 3) := by decide +kernel
theorem d1_42 : decode prog_110_method_10_code 42 = .ok (.goto (-37), 3) := by decide +kernel
theorem d1_45 : decode prog_110_method_10_code 45 = .ok (.lload_n 3, 1) := by decide +kernel
theorem d1_46 : decode prog_110_method_10_code 46 = .ok (.lreturn, 1) := by decide +kernel
def own_hd (bv : Nat → Int32) (fr le : Int32) : Nat → Int64
  | 0 => 0
  | i + 1 => (own_hd bv fr le i <<< ((8 : Int32) &&& 0x3f).toInt64) ||| ((if (Int32.ofNat i) < le then ((bv (fr.toInt.toNat + i)) &&& (255 : Int32)) else (0 : Int32))).toInt64
theorem own_i8 {i : Nat} (h : i < 8) : Int32.ofNat i < (8 : Int32) := by
  rw [Int32.lt_iff_toInt_lt, Int32.toInt_ofNat_of_lt (by omega)]
  show (i : Int) < 8
  omega
theorem own_fi {fr le : Int32} {i : Nat} (h0 : 0 ≤ fr.toInt) (h1 : fr.toInt + le.toInt ≤ 12) (hi : i < 8) (hc : Int32.ofNat i < le) : OwnIdx (fr + Int32.ofNat i) (fr.toInt.toNat + i) 12 := by
  have q : (Int32.ofNat i).toInt = i := Int32.toInt_ofNat_of_lt (by omega)
  rw [Int32.lt_iff_toInt_lt, q] at hc
  have b1 := c_iadd fr (Int32.ofNat i)
  have b2 := rng32 (fr + Int32.ofNat i)
  have b3 := rng32 fr
  have b4 := rng32 le
  rw [q] at b1
  have e1 : (fr + Int32.ofNat i).toInt = fr.toInt + i := by omega
  have r := own_idx (j := fr + Int32.ofNat i) (n := 12) (by omega) (by omega)
  have e2 : (fr + Int32.ofNat i).toInt.toNat = fr.toInt.toNat + i := by omega
  rw [e2] at r; exact r
set_option maxRecDepth 65536 in
set_option maxHeartbeats 40000000 in
theorem own_loop {p : Program} {l : Launch} {e : Env} {R : Room} {s : State} {m : MethodId} {args : Array Value} {below : List Frame} {meth : Method} {c : Code} {T : State} {locs : List Loc} {cells slots : Nat} {Z : State} {a0 : Array Value} {h0 : Heap} (a1 : Addr) (fr le : Int32) (bv : Nat → Int32) (X0 : Stand p l e R s m args below meth c T locs cells slots) (hx : p.tables.exec = Jvm.exec) (hZ : Z.Warmed39 s.vm) (hw : ∀ d ∈ tables_1, d.before a0 Z = true) (hby : c.code = prog_110_method_10_code) (hml : c.maxLocals = 6) (hown : s.vm.findClass "com/example/lexgap/lexgap/index/FrontCoding" = some m.cls) (e0 : T.heap = h0) (VB : OwnAV Z h0 a1 .byte 12 (fun i => .int (bv i))) (hf0 : 0 ≤ fr.toInt) (hf1 : fr.toInt + le.toInt ≤ 12) :
    ∀ (k i : Nat), i + k = 8 → ∀ t, Steps p.tables e below (T.setTop (mkF m 45 #[.val (.ref a1), .val (.int fr), .val (.int le), .val (.long (own_hd bv fr le 8)), .second, .val (.int (Int32.ofNat 8))] [])) t → Steps p.tables e below (T.setTop (mkF m 5 #[.val (.ref a1), .val (.int fr), .val (.int le), .val (.long (own_hd bv fr le i)), .second, .val (.int (Int32.ofNat i))] [])) t := by
  intro k
  induction k with
  | zero =>
    intro i hi
    have hi' : i = 8 := by omega
    subst hi'
    have pre0 : ∀ t, Steps p.tables e below (T.setTop (mkF m 5 #[.val (.ref a1), .val (.int fr), .val (.int le), .val (.long (own_hd bv fr le 8)), .second, .val (.int (Int32.ofNat 8))] [])) t → Steps p.tables e below (T.setTop (mkF m 5 #[.val (.ref a1), .val (.int fr), .val (.int le), .val (.long (own_hd bv fr le 8)), .second, .val (.int (Int32.ofNat 8))] [])) t := fun t hk => hk
    have k41 : ∀ t, Steps p.tables e below (T.setTop (mkF m 45 #[.val (.ref a1), .val (.int fr), .val (.int le), .val (.long (own_hd bv fr le 8)), .second, .val (.int (Int32.ofNat 8))] [])) t → Steps p.tables e below (T.setTop (mkF m 5 #[.val (.ref a1), .val (.int fr), .val (.int le), .val (.long (own_hd bv fr le 8)), .second, .val (.int (Int32.ofNat 8))] [])) t := fun t hk => pre0 t (by
      show Steps p.tables e below (T.setTop (mkF m 5 #[.val (.ref a1), .val (.int fr), .val (.int le), .val (.long (own_hd bv fr le 8)), .second, .val (.int (Int32.ofNat 8))] [])) _
      refine XS.iload X0.here hx rfl (hb hby d1_5) rfl ?_
      show Steps p.tables e below (T.setTop (mkF m 7 #[.val (.ref a1), .val (.int fr), .val (.int le), .val (.long (own_hd bv fr le 8)), .second, .val (.int (Int32.ofNat 8))] [(.int (Int32.ofNat 8))])) _
      refine XS.bipush X0.here hx rfl (hb hby d1_7) ?_
      show Steps p.tables e below (T.setTop (mkF m 9 #[.val (.ref a1), .val (.int fr), .val (.int le), .val (.long (own_hd bv fr le 8)), .second, .val (.int (Int32.ofNat 8))] [(.int (8 : Int32)), (.int (Int32.ofNat 8))])) _
      refine XS.icmpYes X0.here hx rfl (pc0 := 9) (pc' := 45) rfl (hb hby d1_9) rfl (flt (by decide : ¬ ((Int32.ofNat 8) < (8 : Int32)))).2.1 (by decide) (by decide) ?_
      exact hk)
    exact k41
  | succ k ih =>
    intro i hi
    have pre0 : ∀ t, Steps p.tables e below (T.setTop (mkF m 5 #[.val (.ref a1), .val (.int fr), .val (.int le), .val (.long (own_hd bv fr le i)), .second, .val (.int (Int32.ofNat i))] [])) t → Steps p.tables e below (T.setTop (mkF m 5 #[.val (.ref a1), .val (.int fr), .val (.int le), .val (.long (own_hd bv fr le i)), .second, .val (.int (Int32.ofNat i))] [])) t := fun t hk => hk
    have h8 : (Int32.ofNat i) < (8 : Int32) := own_i8 (by omega)
    have k42 : ∀ t, Steps p.tables e below (T.setTop (mkF m 19 #[.val (.ref a1), .val (.int fr), .val (.int le), .val (.long (own_hd bv fr le i)), .second, .val (.int (Int32.ofNat i))] [(.int le), (.int (Int32.ofNat i)), (.long ((own_hd bv fr le i) <<< ((8 : Int32) &&& 0x3f).toInt64))])) t → Steps p.tables e below (T.setTop (mkF m 5 #[.val (.ref a1), .val (.int fr), .val (.int le), .val (.long (own_hd bv fr le i)), .second, .val (.int (Int32.ofNat i))] [])) t := fun t hk => pre0 t (by
      show Steps p.tables e below (T.setTop (mkF m 5 #[.val (.ref a1), .val (.int fr), .val (.int le), .val (.long (own_hd bv fr le i)), .second, .val (.int (Int32.ofNat i))] [])) _
      refine XS.iload X0.here hx rfl (hb hby d1_5) rfl ?_
      show Steps p.tables e below (T.setTop (mkF m 7 #[.val (.ref a1), .val (.int fr), .val (.int le), .val (.long (own_hd bv fr le i)), .second, .val (.int (Int32.ofNat i))] [(.int (Int32.ofNat i))])) _
      refine XS.bipush X0.here hx rfl (hb hby d1_7) ?_
      show Steps p.tables e below (T.setTop (mkF m 9 #[.val (.ref a1), .val (.int fr), .val (.int le), .val (.long (own_hd bv fr le i)), .second, .val (.int (Int32.ofNat i))] [(.int (8 : Int32)), (.int (Int32.ofNat i))])) _
      refine XS.icmpNo X0.here hx rfl (hb hby d1_9) rfl (tlt h8).2.1 ?_
      show Steps p.tables e below (T.setTop (mkF m 12 #[.val (.ref a1), .val (.int fr), .val (.int le), .val (.long (own_hd bv fr le i)), .second, .val (.int (Int32.ofNat i))] [])) _
      refine XS.lloadN X0.here hx rfl (hb hby d1_12) rfl ?_
      show Steps p.tables e below (T.setTop (mkF m 13 #[.val (.ref a1), .val (.int fr), .val (.int le), .val (.long (own_hd bv fr le i)), .second, .val (.int (Int32.ofNat i))] [(.long (own_hd bv fr le i))])) _
      refine XS.bipush X0.here hx rfl (hb hby d1_13) ?_
      show Steps p.tables e below (T.setTop (mkF m 15 #[.val (.ref a1), .val (.int fr), .val (.int le), .val (.long (own_hd bv fr le i)), .second, .val (.int (Int32.ofNat i))] [(.int (8 : Int32)), (.long (own_hd bv fr le i))])) _
      refine XS.lshl X0.here hx rfl (hb hby d1_15) rfl ?_
      show Steps p.tables e below (T.setTop (mkF m 16 #[.val (.ref a1), .val (.int fr), .val (.int le), .val (.long (own_hd bv fr le i)), .second, .val (.int (Int32.ofNat i))] [(.long ((own_hd bv fr le i) <<< ((8 : Int32) &&& 0x3f).toInt64))])) _
      refine XS.iload X0.here hx rfl (hb hby d1_16) rfl ?_
      show Steps p.tables e below (T.setTop (mkF m 18 #[.val (.ref a1), .val (.int fr), .val (.int le), .val (.long (own_hd bv fr le i)), .second, .val (.int (Int32.ofNat i))] [(.int (Int32.ofNat i)), (.long ((own_hd bv fr le i) <<< ((8 : Int32) &&& 0x3f).toInt64))])) _
      refine XS.iloadN X0.here hx rfl (hb hby d1_18) rfl ?_
      exact hk)
    obtain ⟨bb, hbb, k43⟩ : ∃ (bb : Int32), (bb = (if (Int32.ofNat i) < le then ((bv (fr.toInt.toNat + i)) &&& (255 : Int32)) else (0 : Int32))) ∧ ∀ t, Steps p.tables e below (T.setTop (mkF m 36 #[.val (.ref a1), .val (.int fr), .val (.int le), .val (.long (own_hd bv fr le i)), .second, .val (.int (Int32.ofNat i))] [(.int bb), (.long ((own_hd bv fr le i) <<< ((8 : Int32) &&& 0x3f).toInt64))])) t → Steps p.tables e below (T.setTop (mkF m 5 #[.val (.ref a1), .val (.int fr), .val (.int le), .val (.long (own_hd bv fr le i)), .second, .val (.int (Int32.ofNat i))] [])) t := by
      by_cases hc19 : (Int32.ofNat i) < le
      ·
        refine ⟨((bv (fr.toInt.toNat + i)) &&& (255 : Int32)), ((if_pos hc19).trans rfl).symm, fun t hk => k42 t ?_⟩
        show Steps p.tables e below (T.setTop (mkF m 19 #[.val (.ref a1), .val (.int fr), .val (.int le), .val (.long (own_hd bv fr le i)), .second, .val (.int (Int32.ofNat i))] [(.int le), (.int (Int32.ofNat i)), (.long ((own_hd bv fr le i) <<< ((8 : Int32) &&& 0x3f).toInt64))])) _
        refine XS.icmpNo X0.here hx rfl (hb hby d1_19) rfl (tlt hc19).2.1 ?_
        show Steps p.tables e below (T.setTop (mkF m 22 #[.val (.ref a1), .val (.int fr), .val (.int le), .val (.long (own_hd bv fr le i)), .second, .val (.int (Int32.ofNat i))] [(.long ((own_hd bv fr le i) <<< ((8 : Int32) &&& 0x3f).toInt64))])) _
        refine XS.aloadN X0.here hx rfl (hb hby d1_22) rfl rfl ?_
        show Steps p.tables e below (T.setTop (mkF m 23 #[.val (.ref a1), .val (.int fr), .val (.int le), .val (.long (own_hd bv fr le i)), .second, .val (.int (Int32.ofNat i))] [(.ref a1), (.long ((own_hd bv fr le i) <<< ((8 : Int32) &&& 0x3f).toInt64))])) _
        refine XS.iloadN X0.here hx rfl (hb hby d1_23) rfl ?_
        show Steps p.tables e below (T.setTop (mkF m 24 #[.val (.ref a1), .val (.int fr), .val (.int le), .val (.long (own_hd bv fr le i)), .second, .val (.int (Int32.ofNat i))] [(.int fr), (.ref a1), (.long ((own_hd bv fr le i) <<< ((8 : Int32) &&& 0x3f).toInt64))])) _
        refine XS.iload X0.here hx rfl (hb hby d1_24) rfl ?_
        show Steps p.tables e below (T.setTop (mkF m 26 #[.val (.ref a1), .val (.int fr), .val (.int le), .val (.long (own_hd bv fr le i)), .second, .val (.int (Int32.ofNat i))] [(.int (Int32.ofNat i)), (.int fr), (.ref a1), (.long ((own_hd bv fr le i) <<< ((8 : Int32) &&& 0x3f).toInt64))])) _
        refine XS.iadd X0.here hx rfl (hb hby d1_26) rfl ?_
        show Steps p.tables e below (T.setTop (mkF m 27 #[.val (.ref a1), .val (.int fr), .val (.int le), .val (.long (own_hd bv fr le i)), .second, .val (.int (Int32.ofNat i))] [(.int (fr + (Int32.ofNat i))), (.ref a1), (.long ((own_hd bv fr le i) <<< ((8 : Int32) &&& 0x3f).toInt64))])) _
        refine own_bald X0 hx hZ e0 VB (k := (fr.toInt.toNat + i)) (own_fi hf0 hf1 (by omega) hc19) rfl (g := (mkF m 27 #[.val (.ref a1), .val (.int fr), .val (.int le), .val (.long (own_hd bv fr le i)), .second, .val (.int (Int32.ofNat i))] [(.int (fr + (Int32.ofNat i))), (.ref a1), (.long ((own_hd bv fr le i) <<< ((8 : Int32) &&& 0x3f).toInt64))])) rfl rfl (hb hby d1_27) _ ?_
        show Steps p.tables e below (T.setTop (mkF m 28 #[.val (.ref a1), .val (.int fr), .val (.int le), .val (.long (own_hd bv fr le i)), .second, .val (.int (Int32.ofNat i))] [(.int (bv (fr.toInt.toNat + i))), (.long ((own_hd bv fr le i) <<< ((8 : Int32) &&& 0x3f).toInt64))])) _
        refine XS.sipush X0.here hx rfl (hb hby d1_28) ?_
        show Steps p.tables e below (T.setTop (mkF m 31 #[.val (.ref a1), .val (.int fr), .val (.int le), .val (.long (own_hd bv fr le i)), .second, .val (.int (Int32.ofNat i))] [(.int (255 : Int32)), (.int (bv (fr.toInt.toNat + i))), (.long ((own_hd bv fr le i) <<< ((8 : Int32) &&& 0x3f).toInt64))])) _
        refine XS.iand X0.here hx rfl (hb hby d1_31) rfl ?_
        show Steps p.tables e below (T.setTop (mkF m 32 #[.val (.ref a1), .val (.int fr), .val (.int le), .val (.long (own_hd bv fr le i)), .second, .val (.int (Int32.ofNat i))] [(.int ((bv (fr.toInt.toNat + i)) &&& (255 : Int32))), (.long ((own_hd bv fr le i) <<< ((8 : Int32) &&& 0x3f).toInt64))])) _
        refine XS.goto X0.here hx rfl (pc0 := 32) (pc' := 36) rfl (hb hby d1_32) (by decide) (by decide) ?_
        exact hk
      ·
        refine ⟨(0 : Int32), ((if_neg hc19).trans rfl).symm, fun t hk => k42 t ?_⟩
        show Steps p.tables e below (T.setTop (mkF m 19 #[.val (.ref a1), .val (.int fr), .val (.int le), .val (.long (own_hd bv fr le i)), .second, .val (.int (Int32.ofNat i))] [(.int le), (.int (Int32.ofNat i)), (.long ((own_hd bv fr le i) <<< ((8 : Int32) &&& 0x3f).toInt64))])) _
        refine XS.icmpYes X0.here hx rfl (pc0 := 19) (pc' := 35) rfl (hb hby d1_19) rfl (flt hc19).2.1 (by decide) (by decide) ?_
        show Steps p.tables e below (T.setTop (mkF m 35 #[.val (.ref a1), .val (.int fr), .val (.int le), .val (.long (own_hd bv fr le i)), .second, .val (.int (Int32.ofNat i))] [(.long ((own_hd bv fr le i) <<< ((8 : Int32) &&& 0x3f).toInt64))])) _
        refine XS.iconst X0.here hx rfl (hb hby d1_35) ?_
        exact hk
    have k44 : ∀ t, Steps p.tables e below (T.setTop (mkF m 5 #[.val (.ref a1), .val (.int fr), .val (.int le), .val (.long (((own_hd bv fr le i) <<< ((8 : Int32) &&& 0x3f).toInt64) ||| ((bb).toInt64))), .second, .val (.int ((Int32.ofNat i) + (1 : Int32)))] [])) t → Steps p.tables e below (T.setTop (mkF m 5 #[.val (.ref a1), .val (.int fr), .val (.int le), .val (.long (own_hd bv fr le i)), .second, .val (.int (Int32.ofNat i))] [])) t := fun t hk => k43 t (by
      show Steps p.tables e below (T.setTop (mkF m 36 #[.val (.ref a1), .val (.int fr), .val (.int le), .val (.long (own_hd bv fr le i)), .second, .val (.int (Int32.ofNat i))] [(.int bb), (.long ((own_hd bv fr le i) <<< ((8 : Int32) &&& 0x3f).toInt64))])) _
      refine XS.i2l X0.here hx rfl (hb hby d1_36) rfl ?_
      show Steps p.tables e below (T.setTop (mkF m 37 #[.val (.ref a1), .val (.int fr), .val (.int le), .val (.long (own_hd bv fr le i)), .second, .val (.int (Int32.ofNat i))] [(.long ((bb).toInt64)), (.long ((own_hd bv fr le i) <<< ((8 : Int32) &&& 0x3f).toInt64))])) _
      refine XS.lor X0.here hx rfl (hb hby d1_37) rfl ?_
      show Steps p.tables e below (T.setTop (mkF m 38 #[.val (.ref a1), .val (.int fr), .val (.int le), .val (.long (own_hd bv fr le i)), .second, .val (.int (Int32.ofNat i))] [(.long (((own_hd bv fr le i) <<< ((8 : Int32) &&& 0x3f).toInt64) ||| ((bb).toInt64)))])) _
      refine XS.lstoreN X0.here hx rfl (hb hby d1_38) rfl (l' := #[.val (.ref a1), .val (.int fr), .val (.int le), .val (.long (((own_hd bv fr le i) <<< ((8 : Int32) &&& 0x3f).toInt64) ||| ((bb).toInt64))), .second, .val (.int (Int32.ofNat i))]) rfl ?_
      show Steps p.tables e below (T.setTop (mkF m 39 #[.val (.ref a1), .val (.int fr), .val (.int le), .val (.long (((own_hd bv fr le i) <<< ((8 : Int32) &&& 0x3f).toInt64) ||| ((bb).toInt64))), .second, .val (.int (Int32.ofNat i))] [])) _
      refine XS.iinc X0.here hx rfl (hb hby d1_39) rfl (l' := #[.val (.ref a1), .val (.int fr), .val (.int le), .val (.long (((own_hd bv fr le i) <<< ((8 : Int32) &&& 0x3f).toInt64) ||| ((bb).toInt64))), .second, .val (.int ((Int32.ofNat i) + (1 : Int32)))]) rfl ?_
      show Steps p.tables e below (T.setTop (mkF m 42 #[.val (.ref a1), .val (.int fr), .val (.int le), .val (.long (((own_hd bv fr le i) <<< ((8 : Int32) &&& 0x3f).toInt64) ||| ((bb).toInt64))), .second, .val (.int ((Int32.ofNat i) + (1 : Int32)))] [])) _
      refine XS.goto X0.here hx rfl (pc0 := 42) (pc' := 5) rfl (hb hby d1_42) (by decide) (by decide) ?_
      exact hk)
    have e1 : (((own_hd bv fr le i) <<< ((8 : Int32) &&& 0x3f).toInt64) ||| ((bb).toInt64)) = own_hd bv fr le (i + 1) := by rw [hbb]; rfl
    have e2 : (Int32.ofNat i) + (1 : Int32) = Int32.ofNat (i + 1) := (Int32.ofNat_add i 1).symm
    rw [e1, e2] at k44
    exact fun t hk => k44 t (ih (i + 1) (by omega) t hk)
theorem pn_1 : plainName "com/example/lexgap/lexgap/index/FrontCoding" = true := by first | (simp [plainName, overriddenIn]; done) | decide +kernel
theorem ef_1 (m : MethodId) (a1 : Addr) (fr : Int32) (le : Int32) : entryFrame m #[(.ref a1), (.int fr), (.int le)] 6 = (mkF m 0 #[.val (.ref a1), .val (.int fr), .val (.int le), .unset, .unset, .unset] []) := by first | (simp [entryFrame, mkF, argsToLocals, Value.category]; done) | rfl
def Q1 (Z : State) (a1 : Addr) (fr : Int32) (le : Int32) (bv : Nat → Int32) (h0 : Heap) (n0 : Nat) (v : Option Value) (h : Heap) (L : List Loc) : Prop := v = some (.long (own_hd bv fr le 8)) ∧ Fr n0 L ∧ h = h0
set_option maxRecDepth 65536 in
set_option maxHeartbeats 40000000 in
theorem rm1 (l : Launch) (Z : State) (a0 : Array Value) (hw : ∀ d ∈ tables_1, d.before a0 Z = true) (ws : List Jvm.Cond) (a1 : Addr) (fr : Int32) (le : Int32) (bv : Nat → Int32) (h0 : Heap) (n0 : Nat) (Z0 : n0 ≤ h0.size) (VB : OwnAV Z h0 a1 .byte 12 (fun i => .int (bv i))) (hf0 : 0 ≤ fr.toInt) (hf1 : fr.toInt + le.toInt ≤ 12) :
    MetFree l (⟨"com/example/lexgap/lexgap/index/FrontCoding", "head", "([BII)J"⟩ : MethodName) (head1 (Jvm.Cond.code (⟨"com/example/lexgap/lexgap/index/FrontCoding", "head", "([BII)J"⟩ : MethodName) prog_110_method_10_code 6 (some .long) :: ws) ({ frames := 0, cells := 0, slots := 0, locals := 0 } : Room)) (fun a U => a = #[(.ref a1), (.int fr), (.int le)] ∧ Z.Warmed39 U.vm ∧ U.heap = h0) (fun _ _ _ _ _ => True) (fun _ U o U' => ∃ v L, o = .returned v ∧ Q1 Z a1 fr le bv h0 n0 v U'.heap L ∧ FrameEnd U o U' L ({ frames := 0, cells := 0, slots := 0, locals := 0 } : Room).cells ({ frames := 0, cells := 0, slots := 0, locals := 0 } : Room).slots) := by
  refine MetFree.of_bodySF (plainFor_of_name pn_1) hisR ?_
  intro p e s m args below meth c s₁ Bd hml0 hP hK
  obtain ⟨rfl, hZ, hh⟩ := hP
  have hx := Bd.exec
  have hby := Bd.bytes
  have hml : c.maxLocals = 6 := hml0
  have hown : s.vm.findClass "com/example/lexgap/lexgap/index/FrontCoding" = some m.cls := findClass_of_methodNamed Bd.named
  have hnm := (name_of_methodNamed Bd.named Bd.method).1
  have X0 : Stand p l e ({ frames := 0, cells := 0, slots := 0, locals := 0 } : Room) s m #[(.ref a1), (.int fr), (.int le)] below meth c s₁ [] 0 0 := Stand.of_body Bd
  have e0 : s₁.heap = h0 := by rw [← hh, Bd.state]; rfl
  have N0 := Fr.nil n0
  have pre0 : ∀ t, Steps p.tables e below (s₁.setTop (mkF m 0 #[.val (.ref a1), .val (.int fr), .val (.int le), .unset, .unset, .unset] [])) t → Steps p.tables e below (s₁.setTop (entryFrame m #[(.ref a1), (.int fr), (.int le)] 6)) t := fun t k => castTop (ef_1 m a1 fr le) k
  have k45 : ∀ t, Steps p.tables e below (s₁.setTop (mkF m 5 #[.val (.ref a1), .val (.int fr), .val (.int le), .val (.long (0 : Int64)), .second, .val (.int (0 : Int32))] [])) t → Steps p.tables e below (s₁.setTop (entryFrame m #[(.ref a1), (.int fr), (.int le)] 6)) t := fun t hk => pre0 t (by
    show Steps p.tables e below (s₁.setTop (mkF m 0 #[.val (.ref a1), .val (.int fr), .val (.int le), .unset, .unset, .unset] [])) _
    refine XS.lconst X0.here hx rfl (hb hby d1_0) ?_
    show Steps p.tables e below (s₁.setTop (mkF m 1 #[.val (.ref a1), .val (.int fr), .val (.int le), .unset, .unset, .unset] [(.long (0 : Int64))])) _
    refine XS.lstoreN X0.here hx rfl (hb hby d1_1) rfl (l' := #[.val (.ref a1), .val (.int fr), .val (.int le), .val (.long (0 : Int64)), .second, .unset]) rfl ?_
    show Steps p.tables e below (s₁.setTop (mkF m 2 #[.val (.ref a1), .val (.int fr), .val (.int le), .val (.long (0 : Int64)), .second, .unset] [])) _
    refine XS.iconst X0.here hx rfl (hb hby d1_2) ?_
    show Steps p.tables e below (s₁.setTop (mkF m 3 #[.val (.ref a1), .val (.int fr), .val (.int le), .val (.long (0 : Int64)), .second, .unset] [(.int (0 : Int32))])) _
    refine XS.istore X0.here hx rfl (hb hby d1_3) rfl (l' := #[.val (.ref a1), .val (.int fr), .val (.int le), .val (.long (0 : Int64)), .second, .val (.int (0 : Int32))]) rfl ?_
    exact hk)
  have kL := fun t hk => k45 t (own_loop (a0 := a0) a1 fr le bv X0 hx hZ hw hby hml hown e0 VB hf0 hf1 8 0 rfl t hk)
  have k46 : ∀ t, Steps p.tables e below (s₁.setTop (mkF m 46 #[.val (.ref a1), .val (.int fr), .val (.int le), .val (.long (own_hd bv fr le 8)), .second, .val (.int (Int32.ofNat 8))] [(.long (own_hd bv fr le 8))])) t → Steps p.tables e below (s₁.setTop (entryFrame m #[(.ref a1), (.int fr), (.int le)] 6)) t := fun t hk => kL t (by
    show Steps p.tables e below (s₁.setTop (mkF m 45 #[.val (.ref a1), .val (.int fr), .val (.int le), .val (.long (own_hd bv fr le 8)), .second, .val (.int (Int32.ofNat 8))] [])) _
    refine XS.lloadN X0.here hx rfl (hb hby d1_45) rfl ?_
    exact hk)
  obtain ⟨fs, hr, hrun, hended, hW, hsame⟩ := X0.leave (v := some (.long (own_hd bv fr le 8))) (fun h => by rw [Bd.returns] at h; cases h)
  refine ⟨_, _, k46 _ ?_, hrun, hended, _, _, rfl, ?_, ⟨_, rfl⟩, hW, hsame.mono (by decide) (by decide)⟩
  · show Steps p.tables e below (s₁.setTop (mkF m 46 #[.val (.ref a1), .val (.int fr), .val (.int le), .val (.long (own_hd bv fr le 8)), .second, .val (.int (Int32.ofNat 8))] [(.long (own_hd bv fr le 8))])) _
    exact retOut X0 hx Bd.returns rfl (Or.inr (Or.inl ⟨rfl, rfl, _, rfl⟩)) (hb hby d1_46) hr
  · show Q1 Z a1 fr le bv h0 n0 _ s₁.heap _
    rw [e0]
    exact ⟨rfl, N0, rfl⟩
theorem own_from (ff fr : Int32) (h : fr = ((ff &&& (2147483647 : Int32)) % (5 : Int32))) : 0 ≤ fr.toInt ∧ fr.toInt ≤ 4 := by
  have a3 : (ff &&& (2147483647 : Int32)).toInt = ff.toInt % (2 ^ 31 : Nat) := c_mask ff _ 31 (by decide) (by decide)
  have a4 : ((ff &&& (2147483647 : Int32)) % (5 : Int32)).toInt = (ff &&& (2147483647 : Int32)).toInt % 5 := by
    rw [Int32.toInt_mod]; exact (tr _ _).1 (by rw [a3]; omega)
  rw [h]; omega
theorem own_len13 (ll fr : Int32) (h0 : 0 ≤ fr.toInt) (h1 : fr.toInt ≤ 4) : ((13 : Int32) - fr) ≠ 0 ∧ 0 ≤ ((ll &&& (2147483647 : Int32)) % ((13 : Int32) - fr)).toInt ∧ fr.toInt + ((ll &&& (2147483647 : Int32)) % ((13 : Int32) - fr)).toInt ≤ 12 := by
  have a3 : (ll &&& (2147483647 : Int32)).toInt = ll.toInt % (2 ^ 31 : Nat) := c_mask ll _ 31 (by decide) (by decide)
  have b1 := c_isub 13 fr
  have b2 := rng32 (13 - fr)
  have z3 : (13 : Int32).toInt = 13 := by decide
  have z0 : (0 : Int32).toInt = 0 := by decide
  rw [z3] at b1
  have b3 : ((13 : Int32) - fr).toInt = 13 - fr.toInt := by omega
  have a4 : ((ll &&& (2147483647 : Int32)) % ((13 : Int32) - fr)).toInt = (ll &&& (2147483647 : Int32)).toInt % (13 - fr.toInt) := by
    rw [Int32.toInt_mod, b3]; exact (tr _ _).1 (by rw [a3]; omega)
  have c1 : 0 ≤ (ll &&& (2147483647 : Int32)).toInt % (13 - fr.toInt) := Int.emod_nonneg _ (by omega)
  have c2 : (ll &&& (2147483647 : Int32)).toInt % (13 - fr.toInt) < 13 - fr.toInt := Int.emod_lt_of_pos _ (by omega)
  rw [a4]
  exact ⟨fun q => by rw [q, z0] at b3; omega, by omega, by omega⟩
theorem own_byte (y : Int64) : ((nar .byte (((y.toInt32)).toInt8.toInt32)) &&& (255 : Int32)).toInt = y.toInt % 256 := by
  have a1 : ((nar .byte (((y.toInt32)).toInt8.toInt32)) &&& (255 : Int32)).toInt = (nar .byte (((y.toInt32)).toInt8.toInt32)).toInt % (2 ^ 8 : Nat) := c_mask _ _ 8 (by decide) (by decide)
  have a2 : nar .byte (((y.toInt32)).toInt8.toInt32) = (((y.toInt32)).toInt8.toInt32).toInt8.toInt32 := rfl
  have a3 := (c_i2b (((y.toInt32)).toInt8.toInt32)).1
  have a4 := (c_i2b (y.toInt32)).1
  have a5 := c_l2i y
  rw [a1, a2]
  omega
theorem own_byteS (x : Int64) (q : Int32) (k : Nat) (P : Int) (hk : q.toBitVec.toNat % 64 = k) (h0 : 0 < k) (hP : P = (2 ^ k : Nat)) : ((nar .byte (((((x.toUInt64 >>> (q &&& 0x3f).toInt64.toUInt64).toInt64)).toInt32).toInt8.toInt32)) &&& (255 : Int32)).toInt = ((x.toInt % 18446744073709551616) / P) % 256 := by
  rw [own_byte, c_lushr x q k hk h0, hP]
theorem own_hib (x : BitVec 64) (k : Nat) : (x &&& (BitVec.allOnes 64 <<< k)).toNat = x.toNat / 2 ^ k * 2 ^ k := by
  have h : x &&& (BitVec.allOnes 64 <<< k) = (x >>> k) <<< k := by
    apply BitVec.eq_of_getLsbD_eq
    intro i hi
    simp only [BitVec.getLsbD_and, BitVec.getLsbD_shiftLeft, BitVec.getLsbD_ushiftRight, BitVec.getLsbD_allOnes]
    by_cases q : i < k
    · simp [q]
    · have e : k + (i - k) = i := by omega
      simp [q, e, hi]
      omega
  rw [h, BitVec.toNat_shiftLeft, BitVec.toNat_ushiftRight, Nat.shiftLeft_eq, Nat.shiftRight_eq_div_pow]
  exact Nat.mod_eq_of_lt (Nat.lt_of_le_of_lt (Nat.div_mul_le_self _ _) x.isLt)
theorem own_nat64 (x : Int64) : (x.toBitVec.toNat : Int) = x.toInt % 18446744073709551616 := by
  have h := BitVec.toInt_eq_toNat_cond x.toBitVec
  have h' : x.toInt = x.toBitVec.toInt := rfl
  have := x.toBitVec.isLt
  rw [h']
  split at h <;> omega
theorem own_hi (x m : Int64) (k : Nat) (P : Int) (hm : m.toBitVec = BitVec.allOnes 64 <<< k) (hP : P = (2 ^ k : Nat)) : (x &&& m).toInt % 18446744073709551616 = (x.toInt % 18446744073709551616) / P * P := by
  rw [← own_nat64, ← own_nat64, Int64.toBitVec_and, hm, own_hib, hP]
  simp
theorem own_eq64 {x y : Int64} (h : (x.toInt - y.toInt) % 18446744073709551616 = 0) : x = y := by
  have := rng64 x
  have := rng64 y
  rw [← Int64.toInt_inj]; omega
theorem own_hs (bv : Nat → Int32) (fr le : Int32) (i : Nat) (b : Int) (hb : ((if (Int32.ofNat i) < le then ((bv (fr.toInt.toNat + i)) &&& (255 : Int32)) else (0 : Int32))).toInt = b) (h0 : 0 ≤ b) (h1 : b < 256) : ((own_hd bv fr le (i + 1)).toInt - ((own_hd bv fr le i).toInt * 256 + b)) % 18446744073709551616 = 0 := by
  rw [own_hd]
  have a1 := c_lshl (own_hd bv fr le i) 8 8 (by decide)
  have a2 := c_i2l (if (Int32.ofNat i) < le then ((bv (fr.toInt.toNat + i)) &&& (255 : Int32)) else (0 : Int32))
  have a3 := c_orL (own_hd bv fr le i <<< ((8 : Int32) &&& 0x3f).toInt64) ((if (Int32.ofNat i) < le then ((bv (fr.toInt.toNat + i)) &&& (255 : Int32)) else (0 : Int32))).toInt64 8 (by decide) 256 (by decide) (by omega) (by omega) (by omega)
  omega
theorem own_bit (bv : Nat → Int32) (fr le : Int32) (i : Nat) (hi : i < 8) (B : Int) (hB : ((bv (fr.toInt.toNat + i)) &&& (255 : Int32)).toInt = B) (h0 : 0 ≤ B) (h1 : B < 256) : ∃ b : Int, ((if (Int32.ofNat i) < le then ((bv (fr.toInt.toNat + i)) &&& (255 : Int32)) else (0 : Int32))).toInt = b ∧ 0 ≤ b ∧ b < 256 ∧ ((i : Int) < le.toInt → b = B) ∧ (¬ (i : Int) < le.toInt → b = 0) := by
  have q : (Int32.ofNat i).toInt = i := Int32.toInt_ofNat_of_lt (by omega)
  have z0 : (0 : Int32).toInt = 0 := by decide
  by_cases h : Int32.ofNat i < le
  · have h' := h
    rw [Int32.lt_iff_toInt_lt, q] at h'
    exact ⟨B, by rw [if_pos h, hB], h0, h1, fun _ => rfl, fun r => absurd h' r⟩
  · have h' := h
    rw [Int32.lt_iff_toInt_lt, q] at h'
    exact ⟨0, by rw [if_neg h, z0], by omega, by omega, fun r => absurd r h', fun _ => rfl⟩
theorem own_chain (x y z b : Int) (h : (x - (y * 256 + b)) % 18446744073709551616 = 0) (hy : (y - z) % 18446744073709551616 = 0) : (x - (z * 256 + b)) % 18446744073709551616 = 0 := by omega
theorem own_qs (W : Int) (hW0 : 0 ≤ W) (hW1 : W < 18446744073709551616) : ∃ q1 q2 q3 q4 q5 q6 q7 : Int, W / 72057594037927936 = q1 ∧ W / 281474976710656 = q2 ∧ W / 1099511627776 = q3 ∧ W / 4294967296 = q4 ∧ W / 16777216 = q5 ∧ W / 65536 = q6 ∧ W / 256 = q7 ∧ q1 % 256 = q1 ∧ q2 % 256 = q2 - q1 * 256 ∧ q3 % 256 = q3 - q2 * 256 ∧ q4 % 256 = q4 - q3 * 256 ∧ q5 % 256 = q5 - q4 * 256 ∧ q6 % 256 = q6 - q5 * 256 ∧ q7 % 256 = q7 - q6 * 256 ∧ W % 256 = W - q7 * 256 := by
  have e2 : W / 281474976710656 / 256 = W / 72057594037927936 := by omega
  have e3 : W / 1099511627776 / 256 = W / 281474976710656 := by omega
  have e4 : W / 4294967296 / 256 = W / 1099511627776 := by omega
  have e5 : W / 16777216 / 256 = W / 4294967296 := by omega
  have e6 : W / 65536 / 256 = W / 16777216 := by omega
  have e7 : W / 256 / 256 = W / 65536 := by omega
  have e8 : W / 256 = W / 256 := by omega
  refine ⟨_, _, _, _, _, _, _, rfl, rfl, rfl, rfl, rfl, rfl, rfl, ?_, ?_, ?_, ?_, ?_, ?_, ?_, ?_⟩
  · omega
  · rw [← e2]; omega
  · rw [← e3]; omega
  · rw [← e4]; omega
  · rw [← e5]; omega
  · rw [← e6]; omega
  · rw [← e7]; omega
  · rw [← e8]; omega
set_option maxHeartbeats 4000000 in
/-- eight steps, given what the bytes are of the window W -/
theorem own_eight (bv : Nat → Int32) (fr le : Int32) (W : Int) (hW0 : 0 ≤ W) (hW1 : W < 18446744073709551616) (hl : 0 ≤ le.toInt) (B0 : ((bv (fr.toInt.toNat + 0)) &&& (255 : Int32)).toInt = W / 72057594037927936 % 256) (B1 : ((bv (fr.toInt.toNat + 1)) &&& (255 : Int32)).toInt = W / 281474976710656 % 256) (B2 : ((bv (fr.toInt.toNat + 2)) &&& (255 : Int32)).toInt = W / 1099511627776 % 256) (B3 : ((bv (fr.toInt.toNat + 3)) &&& (255 : Int32)).toInt = W / 4294967296 % 256) (B4 : ((bv (fr.toInt.toNat + 4)) &&& (255 : Int32)).toInt = W / 16777216 % 256) (B5 : ((bv (fr.toInt.toNat + 5)) &&& (255 : Int32)).toInt = W / 65536 % 256) (B6 : ((bv (fr.toInt.toNat + 6)) &&& (255 : Int32)).toInt = W / 256 % 256) (B7 : ((bv (fr.toInt.toNat + 7)) &&& (255 : Int32)).toInt = W / 1 % 256) :
    ∃ V : Int, ((own_hd bv fr le 8).toInt - V) % 18446744073709551616 = 0 ∧ (le.toInt = 0 → V = 0) ∧ (le.toInt = 1 → V = W / 72057594037927936 * 72057594037927936) ∧ (le.toInt = 2 → V = W / 281474976710656 * 281474976710656) ∧ (le.toInt = 3 → V = W / 1099511627776 * 1099511627776) ∧ (le.toInt = 4 → V = W / 4294967296 * 4294967296) ∧ (le.toInt = 5 → V = W / 16777216 * 16777216) ∧ (le.toInt = 6 → V = W / 65536 * 65536) ∧ (le.toInt = 7 → V = W / 256 * 256) ∧ (8 ≤ le.toInt → V = W) := by
  rw [show W / 1 = W from by rw [Int.ediv_one]] at B7
  obtain ⟨q1, q2, q3, q4, q5, q6, q7, u1, u2, u3, u4, u5, u6, u7, d0, d1, d2, d3, d4, d5, d6, d7⟩ := own_qs W hW0 hW1
  rw [u1] at B0 ⊢
  rw [u2] at B1 ⊢
  rw [u3] at B2 ⊢
  rw [u4] at B3 ⊢
  rw [u5] at B4 ⊢
  rw [u6] at B5 ⊢
  rw [u7] at B6 ⊢
  obtain ⟨b0, e0, p0, x0, r0, s0⟩ := own_bit bv fr le 0 (by decide) _ B0 (by omega) (by omega)
  obtain ⟨b1, e1, p1, x1, r1, s1⟩ := own_bit bv fr le 1 (by decide) _ B1 (by omega) (by omega)
  obtain ⟨b2, e2, p2, x2, r2, s2⟩ := own_bit bv fr le 2 (by decide) _ B2 (by omega) (by omega)
  obtain ⟨b3, e3, p3, x3, r3, s3⟩ := own_bit bv fr le 3 (by decide) _ B3 (by omega) (by omega)
  obtain ⟨b4, e4, p4, x4, r4, s4⟩ := own_bit bv fr le 4 (by decide) _ B4 (by omega) (by omega)
  obtain ⟨b5, e5, p5, x5, r5, s5⟩ := own_bit bv fr le 5 (by decide) _ B5 (by omega) (by omega)
  obtain ⟨b6, e6, p6, x6, r6, s6⟩ := own_bit bv fr le 6 (by decide) _ B6 (by omega) (by omega)
  obtain ⟨b7, e7, p7, x7, r7, s7⟩ := own_bit bv fr le 7 (by decide) _ B7 (by omega) (by omega)
  have t0 := own_hs bv fr le 0 b0 e0 p0 x0
  have t1 := own_hs bv fr le 1 b1 e1 p1 x1
  have t2 := own_hs bv fr le 2 b2 e2 p2 x2
  have t3 := own_hs bv fr le 3 b3 e3 p3 x3
  have t4 := own_hs bv fr le 4 b4 e4 p4 x4
  have t5 := own_hs bv fr le 5 b5 e5 p5 x5
  have t6 := own_hs bv fr le 6 b6 e6 p6 x6
  have t7 := own_hs bv fr le 7 b7 e7 p7 x7
  have z : ((own_hd bv fr le 0).toInt - 0) % 18446744073709551616 = 0 := by
    rw [show (own_hd bv fr le 0).toInt = 0 from rfl]; decide
  have v1 := own_chain _ _ _ _ t0 z
  have v2 := own_chain _ _ _ _ t1 v1
  have v3 := own_chain _ _ _ _ t2 v2
  have v4 := own_chain _ _ _ _ t3 v3
  have v5 := own_chain _ _ _ _ t4 v4
  have v6 := own_chain _ _ _ _ t5 v5
  have v7 := own_chain _ _ _ _ t6 v6
  have v8 := own_chain _ _ _ _ t7 v7
  refine ⟨_, v8, ?_⟩
  clear t0 t1 t2 t3 t4 t5 t6 t7 v1 v2 v3 v4 v5 v6 v7 v8 z e0 e1 e2 e3 e4 e5 e6 e7 B0 B1 B2 B3 B4 B5 B6 B7 u1 u2 u3 u4 u5 u6 u7 p0 p1 p2 p3 p4 p5 p6 p7 x0 x1 x2 x3 x4 x5 x6 x7
  rw [d0] at r0
  rw [d1] at r1
  rw [d2] at r2
  rw [d3] at r3
  rw [d4] at r4
  rw [d5] at r5
  rw [d6] at r6
  rw [d7] at r7
  clear d0 d1 d2 d3 d4 d5 d6 d7 hW0 hW1
  refine ⟨fun hc => ?_, fun hc => ?_, fun hc => ?_, fun hc => ?_, fun hc => ?_, fun hc => ?_, fun hc => ?_, fun hc => ?_, fun hc => ?_⟩
  all_goals omega
theorem own_masked (x ma : Int64) (le nn : Int32) (hl : 0 ≤ le.toInt) (hnn : nn = (if (8 : Int32) < le then (8 : Int32) else le)) (hma : ma = (if nn = (0 : Int32) then (0 : Int64) else ((-1 : Int64) <<< (((64 : Int32) - ((8 : Int32) * nn)) &&& 0x3f).toInt64))) (X : Int) (hX : x.toInt % 18446744073709551616 = X) : ∃ V : Int, (x &&& ma).toInt % 18446744073709551616 = V ∧ (le.toInt = 0 → V = 0) ∧ (le.toInt = 1 → V = X / 72057594037927936 * 72057594037927936) ∧ (le.toInt = 2 → V = X / 281474976710656 * 281474976710656) ∧ (le.toInt = 3 → V = X / 1099511627776 * 1099511627776) ∧ (le.toInt = 4 → V = X / 4294967296 * 4294967296) ∧ (le.toInt = 5 → V = X / 16777216 * 16777216) ∧ (le.toInt = 6 → V = X / 65536 * 65536) ∧ (le.toInt = 7 → V = X / 256 * 256) ∧ (8 ≤ le.toInt → V = X) := by
  have z8 : (8 : Int32).toInt = 8 := by decide
  have hr := rng64 x
  by_cases h8 : 8 ≤ le.toInt
  · have hn : nn = 8 := by
      rw [hnn]; split
      · rfl
      · rename_i q; rw [Int32.lt_iff_toInt_lt, z8] at q; rw [← Int32.toInt_inj, z8]; omega
    subst hn
    rw [if_neg (by decide)] at hma
    have q := own_hi x ma 0 1 (by rw [hma]; decide +kernel) (by decide)
    rw [hX] at q
    exact ⟨_, q, fun h => by omega, fun h => by omega, fun h => by omega, fun h => by omega, fun h => by omega, fun h => by omega, fun h => by omega, fun h => by omega, fun h => by omega⟩
  · have hn : nn = le := by rw [hnn, if_neg (by rw [Int32.lt_iff_toInt_lt, z8]; omega)]
    subst hn
    have hc : nn.toInt = 0 ∨ nn.toInt = 1 ∨ nn.toInt = 2 ∨ nn.toInt = 3 ∨ nn.toInt = 4 ∨ nn.toInt = 5 ∨ nn.toInt = 6 ∨ nn.toInt = 7 := by omega
    clear hnn
    rcases hc with hc | hc | hc | hc | hc | hc | hc | hc
    · have e : nn = 0 := by rw [← Int32.toInt_inj]; exact hc
      rw [if_pos e] at hma
      have q : (x &&& ma).toInt % 18446744073709551616 = 0 := by rw [hma, Int64.and_zero]; decide
      exact ⟨_, q, fun h => by omega, fun h => by omega, fun h => by omega, fun h => by omega, fun h => by omega, fun h => by omega, fun h => by omega, fun h => by omega, fun h => by omega⟩
    · have e : nn = 1 := by rw [← Int32.toInt_inj]; exact hc
      rw [e, if_neg (by decide)] at hma
      have q := own_hi x ma 56 72057594037927936 (by rw [hma]; decide +kernel) (by decide)
      rw [hX] at q
      exact ⟨_, q, fun h => by omega, fun h => by omega, fun h => by omega, fun h => by omega, fun h => by omega, fun h => by omega, fun h => by omega, fun h => by omega, fun h => by omega⟩
    · have e : nn = 2 := by rw [← Int32.toInt_inj]; exact hc
      rw [e, if_neg (by decide)] at hma
      have q := own_hi x ma 48 281474976710656 (by rw [hma]; decide +kernel) (by decide)
      rw [hX] at q
      exact ⟨_, q, fun h => by omega, fun h => by omega, fun h => by omega, fun h => by omega, fun h => by omega, fun h => by omega, fun h => by omega, fun h => by omega, fun h => by omega⟩
    · have e : nn = 3 := by rw [← Int32.toInt_inj]; exact hc
      rw [e, if_neg (by decide)] at hma
      have q := own_hi x ma 40 1099511627776 (by rw [hma]; decide +kernel) (by decide)
      rw [hX] at q
      exact ⟨_, q, fun h => by omega, fun h => by omega, fun h => by omega, fun h => by omega, fun h => by omega, fun h => by omega, fun h => by omega, fun h => by omega, fun h => by omega⟩
    · have e : nn = 4 := by rw [← Int32.toInt_inj]; exact hc
      rw [e, if_neg (by decide)] at hma
      have q := own_hi x ma 32 4294967296 (by rw [hma]; decide +kernel) (by decide)
      rw [hX] at q
      exact ⟨_, q, fun h => by omega, fun h => by omega, fun h => by omega, fun h => by omega, fun h => by omega, fun h => by omega, fun h => by omega, fun h => by omega, fun h => by omega⟩
    · have e : nn = 5 := by rw [← Int32.toInt_inj]; exact hc
      rw [e, if_neg (by decide)] at hma
      have q := own_hi x ma 24 16777216 (by rw [hma]; decide +kernel) (by decide)
      rw [hX] at q
      exact ⟨_, q, fun h => by omega, fun h => by omega, fun h => by omega, fun h => by omega, fun h => by omega, fun h => by omega, fun h => by omega, fun h => by omega, fun h => by omega⟩
    · have e : nn = 6 := by rw [← Int32.toInt_inj]; exact hc
      rw [e, if_neg (by decide)] at hma
      have q := own_hi x ma 16 65536 (by rw [hma]; decide +kernel) (by decide)
      rw [hX] at q
      exact ⟨_, q, fun h => by omega, fun h => by omega, fun h => by omega, fun h => by omega, fun h => by omega, fun h => by omega, fun h => by omega, fun h => by omega, fun h => by omega⟩
    · have e : nn = 7 := by rw [← Int32.toInt_inj]; exact hc
      rw [e, if_neg (by decide)] at hma
      have q := own_hi x ma 8 256 (by rw [hma]; decide +kernel) (by decide)
      rw [hX] at q
      exact ⟨_, q, fun h => by omega, fun h => by omega, fun h => by omega, fun h => by omega, fun h => by omega, fun h => by omega, fun h => by omega, fun h => by omega, fun h => by omega⟩
theorem own_win1 (w0 lo : Int64) (h0 : 0 ≤ lo.toInt) (h1 : lo.toInt < 4294967296) : ((w0 <<< (((8 : Int32) * (1 : Int32)) &&& 0x3f).toInt64) ||| (((lo <<< ((32 : Int32) &&& 0x3f).toInt64).toUInt64 >>> (((64 : Int32) - ((8 : Int32) * (1 : Int32))) &&& 0x3f).toInt64.toUInt64).toInt64)).toInt % 18446744073709551616 = (w0.toInt % 18446744073709551616 * 256) % 18446744073709551616 + lo.toInt / 16777216 := by
  have a1 := c_lshl w0 ((8 : Int32) * (1 : Int32)) 8 (by decide)
  have a2 := c_lshl lo 32 32 (by decide)
  have a3 := c_lushr (lo <<< ((32 : Int32) &&& 0x3f).toInt64) ((64 : Int32) - ((8 : Int32) * (1 : Int32))) 56 (by decide) (by decide)
  have a4 := c_orL (w0 <<< (((8 : Int32) * (1 : Int32)) &&& 0x3f).toInt64) (((lo <<< ((32 : Int32) &&& 0x3f).toInt64).toUInt64 >>> (((64 : Int32) - ((8 : Int32) * (1 : Int32))) &&& 0x3f).toInt64.toUInt64).toInt64) 8 (by decide) 256 (by decide)
  have b1 : (lo <<< ((32 : Int32) &&& 0x3f).toInt64).toInt % 18446744073709551616 = lo.toInt * 4294967296 := by omega
  rw [b1] at a3
  have b2 : (((lo <<< ((32 : Int32) &&& 0x3f).toInt64).toUInt64 >>> (((64 : Int32) - ((8 : Int32) * (1 : Int32))) &&& 0x3f).toInt64.toUInt64).toInt64).toInt = lo.toInt / 16777216 := by omega
  have a5 := a4 (by omega) (by omega) (by omega)
  omega
theorem own_win2 (w0 lo : Int64) (h0 : 0 ≤ lo.toInt) (h1 : lo.toInt < 4294967296) : ((w0 <<< (((8 : Int32) * (2 : Int32)) &&& 0x3f).toInt64) ||| (((lo <<< ((32 : Int32) &&& 0x3f).toInt64).toUInt64 >>> (((64 : Int32) - ((8 : Int32) * (2 : Int32))) &&& 0x3f).toInt64.toUInt64).toInt64)).toInt % 18446744073709551616 = (w0.toInt % 18446744073709551616 * 65536) % 18446744073709551616 + lo.toInt / 65536 := by
  have a1 := c_lshl w0 ((8 : Int32) * (2 : Int32)) 16 (by decide)
  have a2 := c_lshl lo 32 32 (by decide)
  have a3 := c_lushr (lo <<< ((32 : Int32) &&& 0x3f).toInt64) ((64 : Int32) - ((8 : Int32) * (2 : Int32))) 48 (by decide) (by decide)
  have a4 := c_orL (w0 <<< (((8 : Int32) * (2 : Int32)) &&& 0x3f).toInt64) (((lo <<< ((32 : Int32) &&& 0x3f).toInt64).toUInt64 >>> (((64 : Int32) - ((8 : Int32) * (2 : Int32))) &&& 0x3f).toInt64.toUInt64).toInt64) 16 (by decide) 65536 (by decide)
  have b1 : (lo <<< ((32 : Int32) &&& 0x3f).toInt64).toInt % 18446744073709551616 = lo.toInt * 4294967296 := by omega
  rw [b1] at a3
  have b2 : (((lo <<< ((32 : Int32) &&& 0x3f).toInt64).toUInt64 >>> (((64 : Int32) - ((8 : Int32) * (2 : Int32))) &&& 0x3f).toInt64.toUInt64).toInt64).toInt = lo.toInt / 65536 := by omega
  have a5 := a4 (by omega) (by omega) (by omega)
  omega
theorem own_win3 (w0 lo : Int64) (h0 : 0 ≤ lo.toInt) (h1 : lo.toInt < 4294967296) : ((w0 <<< (((8 : Int32) * (3 : Int32)) &&& 0x3f).toInt64) ||| (((lo <<< ((32 : Int32) &&& 0x3f).toInt64).toUInt64 >>> (((64 : Int32) - ((8 : Int32) * (3 : Int32))) &&& 0x3f).toInt64.toUInt64).toInt64)).toInt % 18446744073709551616 = (w0.toInt % 18446744073709551616 * 16777216) % 18446744073709551616 + lo.toInt / 256 := by
  have a1 := c_lshl w0 ((8 : Int32) * (3 : Int32)) 24 (by decide)
  have a2 := c_lshl lo 32 32 (by decide)
  have a3 := c_lushr (lo <<< ((32 : Int32) &&& 0x3f).toInt64) ((64 : Int32) - ((8 : Int32) * (3 : Int32))) 40 (by decide) (by decide)
  have a4 := c_orL (w0 <<< (((8 : Int32) * (3 : Int32)) &&& 0x3f).toInt64) (((lo <<< ((32 : Int32) &&& 0x3f).toInt64).toUInt64 >>> (((64 : Int32) - ((8 : Int32) * (3 : Int32))) &&& 0x3f).toInt64.toUInt64).toInt64) 24 (by decide) 16777216 (by decide)
  have b1 : (lo <<< ((32 : Int32) &&& 0x3f).toInt64).toInt % 18446744073709551616 = lo.toInt * 4294967296 := by omega
  rw [b1] at a3
  have b2 : (((lo <<< ((32 : Int32) &&& 0x3f).toInt64).toUInt64 >>> (((64 : Int32) - ((8 : Int32) * (3 : Int32))) &&& 0x3f).toInt64.toUInt64).toInt64).toInt = lo.toInt / 256 := by omega
  have a5 := a4 (by omega) (by omega) (by omega)
  omega
theorem own_win4 (w0 lo : Int64) (h0 : 0 ≤ lo.toInt) (h1 : lo.toInt < 4294967296) : ((w0 <<< (((8 : Int32) * (4 : Int32)) &&& 0x3f).toInt64) ||| (((lo <<< ((32 : Int32) &&& 0x3f).toInt64).toUInt64 >>> (((64 : Int32) - ((8 : Int32) * (4 : Int32))) &&& 0x3f).toInt64.toUInt64).toInt64)).toInt % 18446744073709551616 = (w0.toInt % 18446744073709551616 * 4294967296) % 18446744073709551616 + lo.toInt / 1 := by
  have a1 := c_lshl w0 ((8 : Int32) * (4 : Int32)) 32 (by decide)
  have a2 := c_lshl lo 32 32 (by decide)
  have a3 := c_lushr (lo <<< ((32 : Int32) &&& 0x3f).toInt64) ((64 : Int32) - ((8 : Int32) * (4 : Int32))) 32 (by decide) (by decide)
  have a4 := c_orL (w0 <<< (((8 : Int32) * (4 : Int32)) &&& 0x3f).toInt64) (((lo <<< ((32 : Int32) &&& 0x3f).toInt64).toUInt64 >>> (((64 : Int32) - ((8 : Int32) * (4 : Int32))) &&& 0x3f).toInt64.toUInt64).toInt64) 32 (by decide) 4294967296 (by decide)
  have b1 : (lo <<< ((32 : Int32) &&& 0x3f).toInt64).toInt % 18446744073709551616 = lo.toInt * 4294967296 := by omega
  rw [b1] at a3
  have b2 : (((lo <<< ((32 : Int32) &&& 0x3f).toInt64).toUInt64 >>> (((64 : Int32) - ((8 : Int32) * (4 : Int32))) &&& 0x3f).toInt64.toUInt64).toInt64).toInt = lo.toInt / 1 := by omega
  have a5 := a4 (by omega) (by omega) (by omega)
  omega
theorem own_same (le : Int32) (X V1 V2 : Int) (hl : 0 ≤ le.toInt) (h1 : (le.toInt = 0 → V1 = 0) ∧ (le.toInt = 1 → V1 = X / 72057594037927936 * 72057594037927936) ∧ (le.toInt = 2 → V1 = X / 281474976710656 * 281474976710656) ∧ (le.toInt = 3 → V1 = X / 1099511627776 * 1099511627776) ∧ (le.toInt = 4 → V1 = X / 4294967296 * 4294967296) ∧ (le.toInt = 5 → V1 = X / 16777216 * 16777216) ∧ (le.toInt = 6 → V1 = X / 65536 * 65536) ∧ (le.toInt = 7 → V1 = X / 256 * 256) ∧ (8 ≤ le.toInt → V1 = X)) (h2 : (le.toInt = 0 → V2 = 0) ∧ (le.toInt = 1 → V2 = X / 72057594037927936 * 72057594037927936) ∧ (le.toInt = 2 → V2 = X / 281474976710656 * 281474976710656) ∧ (le.toInt = 3 → V2 = X / 1099511627776 * 1099511627776) ∧ (le.toInt = 4 → V2 = X / 4294967296 * 4294967296) ∧ (le.toInt = 5 → V2 = X / 16777216 * 16777216) ∧ (le.toInt = 6 → V2 = X / 65536 * 65536) ∧ (le.toInt = 7 → V2 = X / 256 * 256) ∧ (8 ≤ le.toInt → V2 = X)) : V1 = V2 := by
  have hc : le.toInt = 0 ∨ le.toInt = 1 ∨ le.toInt = 2 ∨ le.toInt = 3 ∨ le.toInt = 4 ∨ le.toInt = 5 ∨ le.toInt = 6 ∨ le.toInt = 7 ∨ 8 ≤ le.toInt := by omega
  obtain ⟨a0, a1, a2, a3, a4, a5, a6, a7, a8⟩ := h1
  obtain ⟨b0, b1, b2, b3, b4, b5, b6, b7, b8⟩ := h2
  rcases hc with h | h | h | h | h | h | h | h | h
  · rw [a0 h, b0 h]
  · rw [a1 h, b1 h]
  · rw [a2 h, b2 h]
  · rw [a3 h, b3 h]
  · rw [a4 h, b4 h]
  · rw [a5 h, b5 h]
  · rw [a6 h, b6 h]
  · rw [a7 h, b7 h]
  · rw [a8 h, b8 h]
theorem own_join (bv : Nat → Int32) (fr le nn : Int32) (wi ma hh : Int64) (hl : 0 ≤ le.toInt) (hhh : hh = own_hd bv fr le 8) (hnn : nn = (if (8 : Int32) < le then (8 : Int32) else le)) (hma : ma = (if nn = (0 : Int32) then (0 : Int64) else ((-1 : Int64) <<< (((64 : Int32) - ((8 : Int32) * nn)) &&& 0x3f).toInt64))) (X : Int) (hX : wi.toInt % 18446744073709551616 = X) (B0 : ((bv (fr.toInt.toNat + 0)) &&& (255 : Int32)).toInt = X / 72057594037927936 % 256) (B1 : ((bv (fr.toInt.toNat + 1)) &&& (255 : Int32)).toInt = X / 281474976710656 % 256) (B2 : ((bv (fr.toInt.toNat + 2)) &&& (255 : Int32)).toInt = X / 1099511627776 % 256) (B3 : ((bv (fr.toInt.toNat + 3)) &&& (255 : Int32)).toInt = X / 4294967296 % 256) (B4 : ((bv (fr.toInt.toNat + 4)) &&& (255 : Int32)).toInt = X / 16777216 % 256) (B5 : ((bv (fr.toInt.toNat + 5)) &&& (255 : Int32)).toInt = X / 65536 % 256) (B6 : ((bv (fr.toInt.toNat + 6)) &&& (255 : Int32)).toInt = X / 256 % 256) (B7 : ((bv (fr.toInt.toNat + 7)) &&& (255 : Int32)).toInt = X / 1 % 256) : hh = (wi &&& ma) := by
  obtain ⟨V1, v1, c1⟩ := own_eight bv fr le X (by omega) (by omega) hl B0 B1 B2 B3 B4 B5 B6 B7
  obtain ⟨V2, v2, c2⟩ := own_masked wi ma le nn hl hnn hma X hX
  have e := own_same le X V1 V2 hl c1 c2
  apply own_eq64
  rw [hhh]
  clear c1 c2 B0 B1 B2 B3 B4 B5 B6 B7 hma hnn hhh
  omega
set_option maxHeartbeats 8000000 in
theorem own_plain (w0 w1 : Int64) (fr le nn : Int32) (lo wi ma hh : Int64) (hf0 : 0 ≤ fr.toInt) (hf1 : fr.toInt ≤ 4) (hl : 0 ≤ le.toInt) (hhh : hh = own_hd (own_upd (own_upd (own_upd (own_upd (own_upd (own_upd (own_upd (own_upd (own_upd (own_upd (own_upd (own_upd (fun _ => (0 : Int32)) 0 (nar .byte ((((((w0.toUInt64 >>> ((56 : Int32) &&& 0x3f).toInt64.toUInt64).toInt64)).toInt32)).toInt8.toInt32))) 1 (nar .byte ((((((w0.toUInt64 >>> ((48 : Int32) &&& 0x3f).toInt64.toUInt64).toInt64)).toInt32)).toInt8.toInt32))) 2 (nar .byte ((((((w0.toUInt64 >>> ((40 : Int32) &&& 0x3f).toInt64.toUInt64).toInt64)).toInt32)).toInt8.toInt32))) 3 (nar .byte ((((((w0.toUInt64 >>> ((32 : Int32) &&& 0x3f).toInt64.toUInt64).toInt64)).toInt32)).toInt8.toInt32))) 4 (nar .byte ((((((w0.toUInt64 >>> ((24 : Int32) &&& 0x3f).toInt64.toUInt64).toInt64)).toInt32)).toInt8.toInt32))) 5 (nar .byte ((((((w0.toUInt64 >>> ((16 : Int32) &&& 0x3f).toInt64.toUInt64).toInt64)).toInt32)).toInt8.toInt32))) 6 (nar .byte ((((((w0.toUInt64 >>> ((8 : Int32) &&& 0x3f).toInt64.toUInt64).toInt64)).toInt32)).toInt8.toInt32))) 7 (nar .byte ((((w0).toInt32)).toInt8.toInt32))) 8 (nar .byte ((((((w1.toUInt64 >>> ((24 : Int32) &&& 0x3f).toInt64.toUInt64).toInt64)).toInt32)).toInt8.toInt32))) 9 (nar .byte ((((((w1.toUInt64 >>> ((16 : Int32) &&& 0x3f).toInt64.toUInt64).toInt64)).toInt32)).toInt8.toInt32))) 10 (nar .byte ((((((w1.toUInt64 >>> ((8 : Int32) &&& 0x3f).toInt64.toUInt64).toInt64)).toInt32)).toInt8.toInt32))) 11 (nar .byte ((((w1).toInt32)).toInt8.toInt32))) fr le 8) (hlo : lo = (w1 &&& (4294967295 : Int64))) (hwi : wi = (if fr = (0 : Int32) then w0 else ((w0 <<< (((8 : Int32) * fr) &&& 0x3f).toInt64) ||| (((lo <<< ((32 : Int32) &&& 0x3f).toInt64).toUInt64 >>> (((64 : Int32) - ((8 : Int32) * fr)) &&& 0x3f).toInt64.toUInt64).toInt64)))) (hnn : nn = (if (8 : Int32) < le then (8 : Int32) else le)) (hma : ma = (if nn = (0 : Int32) then (0 : Int64) else ((-1 : Int64) <<< (((64 : Int32) - ((8 : Int32) * nn)) &&& 0x3f).toInt64))) : hh = (wi &&& ma) := by
  have hlo1 : lo.toInt = w1.toInt % 4294967296 := by rw [hlo]; exact c_maskL w1 _ 32 (by decide) (by decide)
  obtain ⟨bv, hbv⟩ : ∃ z, (own_upd (own_upd (own_upd (own_upd (own_upd (own_upd (own_upd (own_upd (own_upd (own_upd (own_upd (own_upd (fun _ => (0 : Int32)) 0 (nar .byte ((((((w0.toUInt64 >>> ((56 : Int32) &&& 0x3f).toInt64.toUInt64).toInt64)).toInt32)).toInt8.toInt32))) 1 (nar .byte ((((((w0.toUInt64 >>> ((48 : Int32) &&& 0x3f).toInt64.toUInt64).toInt64)).toInt32)).toInt8.toInt32))) 2 (nar .byte ((((((w0.toUInt64 >>> ((40 : Int32) &&& 0x3f).toInt64.toUInt64).toInt64)).toInt32)).toInt8.toInt32))) 3 (nar .byte ((((((w0.toUInt64 >>> ((32 : Int32) &&& 0x3f).toInt64.toUInt64).toInt64)).toInt32)).toInt8.toInt32))) 4 (nar .byte ((((((w0.toUInt64 >>> ((24 : Int32) &&& 0x3f).toInt64.toUInt64).toInt64)).toInt32)).toInt8.toInt32))) 5 (nar .byte ((((((w0.toUInt64 >>> ((16 : Int32) &&& 0x3f).toInt64.toUInt64).toInt64)).toInt32)).toInt8.toInt32))) 6 (nar .byte ((((((w0.toUInt64 >>> ((8 : Int32) &&& 0x3f).toInt64.toUInt64).toInt64)).toInt32)).toInt8.toInt32))) 7 (nar .byte ((((w0).toInt32)).toInt8.toInt32))) 8 (nar .byte ((((((w1.toUInt64 >>> ((24 : Int32) &&& 0x3f).toInt64.toUInt64).toInt64)).toInt32)).toInt8.toInt32))) 9 (nar .byte ((((((w1.toUInt64 >>> ((16 : Int32) &&& 0x3f).toInt64.toUInt64).toInt64)).toInt32)).toInt8.toInt32))) 10 (nar .byte ((((((w1.toUInt64 >>> ((8 : Int32) &&& 0x3f).toInt64.toUInt64).toInt64)).toInt32)).toInt8.toInt32))) 11 (nar .byte ((((w1).toInt32)).toInt8.toInt32))) = z := ⟨_, rfl⟩
  rw [hbv] at hhh
  obtain ⟨A, hA⟩ : ∃ z, w0.toInt % 18446744073709551616 = z := ⟨_, rfl⟩
  obtain ⟨B, hB⟩ : ∃ z, w1.toInt % 4294967296 = z := ⟨_, rfl⟩
  have g0 : ((bv 0) &&& (255 : Int32)).toInt = A / 72057594037927936 % 256 := by
    rw [← hbv]
    exact (own_byteS w0 56 56 72057594037927936 (by decide) (by decide) (by decide)).trans (by omega)
  have g1 : ((bv 1) &&& (255 : Int32)).toInt = A / 281474976710656 % 256 := by
    rw [← hbv]
    exact (own_byteS w0 48 48 281474976710656 (by decide) (by decide) (by decide)).trans (by omega)
  have g2 : ((bv 2) &&& (255 : Int32)).toInt = A / 1099511627776 % 256 := by
    rw [← hbv]
    exact (own_byteS w0 40 40 1099511627776 (by decide) (by decide) (by decide)).trans (by omega)
  have g3 : ((bv 3) &&& (255 : Int32)).toInt = A / 4294967296 % 256 := by
    rw [← hbv]
    exact (own_byteS w0 32 32 4294967296 (by decide) (by decide) (by decide)).trans (by omega)
  have g4 : ((bv 4) &&& (255 : Int32)).toInt = A / 16777216 % 256 := by
    rw [← hbv]
    exact (own_byteS w0 24 24 16777216 (by decide) (by decide) (by decide)).trans (by omega)
  have g5 : ((bv 5) &&& (255 : Int32)).toInt = A / 65536 % 256 := by
    rw [← hbv]
    exact (own_byteS w0 16 16 65536 (by decide) (by decide) (by decide)).trans (by omega)
  have g6 : ((bv 6) &&& (255 : Int32)).toInt = A / 256 % 256 := by
    rw [← hbv]
    exact (own_byteS w0 8 8 256 (by decide) (by decide) (by decide)).trans (by omega)
  have g7 : ((bv 7) &&& (255 : Int32)).toInt = A % 256 := by
    rw [← hbv]
    exact (own_byte w0).trans (by omega)
  have g8 : ((bv 8) &&& (255 : Int32)).toInt = B / 16777216 % 256 := by
    rw [← hbv]
    exact (own_byteS w1 24 24 16777216 (by decide) (by decide) (by decide)).trans (by omega)
  have g9 : ((bv 9) &&& (255 : Int32)).toInt = B / 65536 % 256 := by
    rw [← hbv]
    exact (own_byteS w1 16 16 65536 (by decide) (by decide) (by decide)).trans (by omega)
  have g10 : ((bv 10) &&& (255 : Int32)).toInt = B / 256 % 256 := by
    rw [← hbv]
    exact (own_byteS w1 8 8 256 (by decide) (by decide) (by decide)).trans (by omega)
  have g11 : ((bv 11) &&& (255 : Int32)).toInt = B % 256 := by
    rw [← hbv]
    exact (own_byte w1).trans (by omega)
  have hc : fr.toInt = 0 ∨ fr.toInt = 1 ∨ fr.toInt = 2 ∨ fr.toInt = 3 ∨ fr.toInt = 4 := by omega
  rw [hB] at hlo1
  clear hbv
  rcases hc with hc | hc | hc | hc | hc
  · have e : fr = 0 := by rw [← Int32.toInt_inj]; exact hc
    subst e
    rw [if_pos rfl] at hwi
    refine own_join bv 0 le nn wi ma hh hl hhh hnn hma A (by rw [hwi]; exact hA) ?_ ?_ ?_ ?_ ?_ ?_ ?_ ?_
    · show ((bv 0) &&& (255 : Int32)).toInt = _
      exact g0.trans (by omega)
    · show ((bv 1) &&& (255 : Int32)).toInt = _
      exact g1.trans (by omega)
    · show ((bv 2) &&& (255 : Int32)).toInt = _
      exact g2.trans (by omega)
    · show ((bv 3) &&& (255 : Int32)).toInt = _
      exact g3.trans (by omega)
    · show ((bv 4) &&& (255 : Int32)).toInt = _
      exact g4.trans (by omega)
    · show ((bv 5) &&& (255 : Int32)).toInt = _
      exact g5.trans (by omega)
    · show ((bv 6) &&& (255 : Int32)).toInt = _
      exact g6.trans (by omega)
    · show ((bv 7) &&& (255 : Int32)).toInt = _
      exact g7.trans (by omega)
  · have e : fr = 1 := by rw [← Int32.toInt_inj]; exact hc
    subst e
    rw [if_neg (by decide)] at hwi
    refine own_join bv 1 le nn wi ma hh hl hhh hnn hma ((A * 256) % 18446744073709551616 + B / 16777216) (by rw [hwi, own_win1 w0 lo (by omega) (by omega), hA, hlo1]) ?_ ?_ ?_ ?_ ?_ ?_ ?_ ?_
    · show ((bv 1) &&& (255 : Int32)).toInt = _
      exact g1.trans (by omega)
    · show ((bv 2) &&& (255 : Int32)).toInt = _
      exact g2.trans (by omega)
    · show ((bv 3) &&& (255 : Int32)).toInt = _
      exact g3.trans (by omega)
    · show ((bv 4) &&& (255 : Int32)).toInt = _
      exact g4.trans (by omega)
    · show ((bv 5) &&& (255 : Int32)).toInt = _
      exact g5.trans (by omega)
    · show ((bv 6) &&& (255 : Int32)).toInt = _
      exact g6.trans (by omega)
    · show ((bv 7) &&& (255 : Int32)).toInt = _
      exact g7.trans (by omega)
    · show ((bv 8) &&& (255 : Int32)).toInt = _
      exact g8.trans (by omega)
  · have e : fr = 2 := by rw [← Int32.toInt_inj]; exact hc
    subst e
    rw [if_neg (by decide)] at hwi
    refine own_join bv 2 le nn wi ma hh hl hhh hnn hma ((A * 65536) % 18446744073709551616 + B / 65536) (by rw [hwi, own_win2 w0 lo (by omega) (by omega), hA, hlo1]) ?_ ?_ ?_ ?_ ?_ ?_ ?_ ?_
    · show ((bv 2) &&& (255 : Int32)).toInt = _
      exact g2.trans (by omega)
    · show ((bv 3) &&& (255 : Int32)).toInt = _
      exact g3.trans (by omega)
    · show ((bv 4) &&& (255 : Int32)).toInt = _
      exact g4.trans (by omega)
    · show ((bv 5) &&& (255 : Int32)).toInt = _
      exact g5.trans (by omega)
    · show ((bv 6) &&& (255 : Int32)).toInt = _
      exact g6.trans (by omega)
    · show ((bv 7) &&& (255 : Int32)).toInt = _
      exact g7.trans (by omega)
    · show ((bv 8) &&& (255 : Int32)).toInt = _
      exact g8.trans (by omega)
    · show ((bv 9) &&& (255 : Int32)).toInt = _
      exact g9.trans (by omega)
  · have e : fr = 3 := by rw [← Int32.toInt_inj]; exact hc
    subst e
    rw [if_neg (by decide)] at hwi
    refine own_join bv 3 le nn wi ma hh hl hhh hnn hma ((A * 16777216) % 18446744073709551616 + B / 256) (by rw [hwi, own_win3 w0 lo (by omega) (by omega), hA, hlo1]) ?_ ?_ ?_ ?_ ?_ ?_ ?_ ?_
    · show ((bv 3) &&& (255 : Int32)).toInt = _
      exact g3.trans (by omega)
    · show ((bv 4) &&& (255 : Int32)).toInt = _
      exact g4.trans (by omega)
    · show ((bv 5) &&& (255 : Int32)).toInt = _
      exact g5.trans (by omega)
    · show ((bv 6) &&& (255 : Int32)).toInt = _
      exact g6.trans (by omega)
    · show ((bv 7) &&& (255 : Int32)).toInt = _
      exact g7.trans (by omega)
    · show ((bv 8) &&& (255 : Int32)).toInt = _
      exact g8.trans (by omega)
    · show ((bv 9) &&& (255 : Int32)).toInt = _
      exact g9.trans (by omega)
    · show ((bv 10) &&& (255 : Int32)).toInt = _
      exact g10.trans (by omega)
  · have e : fr = 4 := by rw [← Int32.toInt_inj]; exact hc
    subst e
    rw [if_neg (by decide)] at hwi
    refine own_join bv 4 le nn wi ma hh hl hhh hnn hma ((A * 4294967296) % 18446744073709551616 + B / 1) (by rw [hwi, own_win4 w0 lo (by omega) (by omega), hA, hlo1]) ?_ ?_ ?_ ?_ ?_ ?_ ?_ ?_
    · show ((bv 4) &&& (255 : Int32)).toInt = _
      exact g4.trans (by omega)
    · show ((bv 5) &&& (255 : Int32)).toInt = _
      exact g5.trans (by omega)
    · show ((bv 6) &&& (255 : Int32)).toInt = _
      exact g6.trans (by omega)
    · show ((bv 7) &&& (255 : Int32)).toInt = _
      exact g7.trans (by omega)
    · show ((bv 8) &&& (255 : Int32)).toInt = _
      exact g8.trans (by omega)
    · show ((bv 9) &&& (255 : Int32)).toInt = _
      exact g9.trans (by omega)
    · show ((bv 10) &&& (255 : Int32)).toInt = _
      exact g10.trans (by omega)
    · show ((bv 11) &&& (255 : Int32)).toInt = _
      rw [g11]; omega
theorem pn_0 : plainName "com/example/lexgap/lexgap/index/FrontCodingHeadPinLaw" = true := by first | (simp [plainName, overriddenIn]; done) | decide +kernel
theorem ef_0 (m : MethodId) (w0 : Int64) (w1 : Int64) (ff : Int32) (ll : Int32) : entryFrame m #[(.long w0), (.long w1), (.int ff), (.int ll)] maxLocals = (mkF m 0 #[.val (.long w0), .second, .val (.long w1), .second, .val (.int ff), .val (.int ll), .unset, .unset, .unset, .unset, .unset, .unset, .unset, .unset, .unset, .unset, .unset, .unset] []) := by first | (simp [entryFrame, mkF, argsToLocals, Value.category, maxLocals]; done) | rfl
def Q0 (Z : State) (w0 : Int64) (w1 : Int64) (ff : Int32) (ll : Int32) (h0 : Heap) (n0 : Nat) (v : Option Value) (h : Heap) (L : List Loc) : Prop := v = some (.int 1) ∧ Fr n0 L
set_option maxRecDepth 65536 in
set_option maxHeartbeats 40000000 in
theorem rm0 (l : Launch) (Z : State) (a0 : Array Value) (hw : ∀ d ∈ tables_1, d.before a0 Z = true) (ws : List Jvm.Cond) (w0 : Int64) (w1 : Int64) (ff : Int32) (ll : Int32) (h0 : Heap) (n0 : Nat) (Z0 : n0 ≤ h0.size)  :
    MetFree l x (head1 (Jvm.Cond.code x code maxLocals ret :: ws) room_1) (fun a U => a = #[(.long w0), (.long w1), (.int ff), (.int ll)] ∧ Z.Warmed39 U.vm ∧ U.heap = h0) (fun _ _ _ _ _ => True) (fun _ U o U' => ∃ v L, o = .returned v ∧ Q0 Z w0 w1 ff ll h0 n0 v U'.heap L ∧ FrameEnd U o U' L room_1.cells room_1.slots) := by
  refine MetFree.of_bodySF (plainFor_of_name pn_0) hisR ?_
  intro p e s m args below meth c s₁ Bd hml0 hP hK
  obtain ⟨rfl, hZ, hh⟩ := hP
  have hx := Bd.exec
  have hby := Bd.bytes
  have hml : c.maxLocals = 18 := hml0
  have hown : s.vm.findClass "com/example/lexgap/lexgap/index/FrontCodingHeadPinLaw" = some m.cls := findClass_of_methodNamed Bd.named
  have hnm := (name_of_methodNamed Bd.named Bd.method).1
  have X0 : Stand p l e room_1 s m #[(.long w0), (.long w1), (.int ff), (.int ll)] below meth c s₁ [] 0 0 := Stand.of_body Bd
  have e0 : s₁.heap = h0 := by rw [← hh, Bd.state]; rfl
  have N0 := Fr.nil n0
  have pre0 : ∀ t, Steps p.tables e below (s₁.setTop (mkF m 0 #[.val (.long w0), .second, .val (.long w1), .second, .val (.int ff), .val (.int ll), .unset, .unset, .unset, .unset, .unset, .unset, .unset, .unset, .unset, .unset, .unset, .unset] [])) t → Steps p.tables e below (s₁.setTop (entryFrame m #[(.long w0), (.long w1), (.int ff), (.int ll)] maxLocals)) t := fun t k => castTop (ef_0 m w0 w1 ff ll) k
  obtain ⟨T47, h47, k47, X47, e47, E47, A47, st47⟩ := newP X0 hx hZ (hw _ (List.mem_of_getElem? (i := 0) rfl)) e0 (g := (mkF m 2 #[.val (.long w0), .second, .val (.long w1), .second, .val (.int ff), .val (.int ll), .unset, .unset, .unset, .unset, .unset, .unset, .unset, .unset, .unset, .unset, .unset, .unset] [(.int (12 : Int32))])) rfl (hb hby at_2) rfl (by decide) (cap := 12) (by decide) (by decide) (by decide) (by decide)
  obtain ⟨b47, g47⟩ : ∃ z, z = h0.size := ⟨_, rfl⟩
  have g48 : n0 ≤ b47 := g47 ▸ Z0
  rw [← g47] at A47 st47
  have Z49 : n0 ≤ h47.size := Nat.le_trans Z0 E47.1
  have A50 : OwnAV Z h47 b47 .byte 12 (fun i => (.int ((fun _ => (0 : Int32)) i))) := OwnAV.new A47 rfl (by decide)
  obtain ⟨T51, h51, X51, e51, W51, st51⟩ := own_bast X47 hx hZ e47 A50 (k := 0) ⟨by decide, rfl, by decide⟩ (g := (mkF m 15 #[.val (.long w0), .second, .val (.long w1), .second, .val (.int ff), .val (.int ll), .val (.ref b47), .unset, .unset, .unset, .unset, .unset, .unset, .unset, .unset, .unset, .unset, .unset] [(.int ((((((w0.toUInt64 >>> ((56 : Int32) &&& 0x3f).toInt64.toUInt64).toInt64)).toInt32)).toInt8.toInt32)), (.int (0 : Int32)), (.ref b47)])) rfl rfl (hb hby at_15)
  have A52 := A50.storeI W51
  have Z53 : n0 ≤ h51.size := W51.size ▸ Z49
  have N54 := Fr.snoc X51 N0 g48
  obtain ⟨T55, h55, X55, e55, W55, st55⟩ := own_bast X51 hx hZ e51 A52 (k := 1) ⟨by decide, rfl, by decide⟩ (g := (mkF m 25 #[.val (.long w0), .second, .val (.long w1), .second, .val (.int ff), .val (.int ll), .val (.ref b47), .unset, .unset, .unset, .unset, .unset, .unset, .unset, .unset, .unset, .unset, .unset] [(.int ((((((w0.toUInt64 >>> ((48 : Int32) &&& 0x3f).toInt64.toUInt64).toInt64)).toInt32)).toInt8.toInt32)), (.int (1 : Int32)), (.ref b47)])) rfl rfl (hb hby at_25)
  have A56 := A52.storeI W55
  have Z57 : n0 ≤ h55.size := W55.size ▸ Z53
  have N58 := Fr.snoc X55 N54 g48
  obtain ⟨T59, h59, X59, e59, W59, st59⟩ := own_bast X55 hx hZ e55 A56 (k := 2) ⟨by decide, rfl, by decide⟩ (g := (mkF m 35 #[.val (.long w0), .second, .val (.long w1), .second, .val (.int ff), .val (.int ll), .val (.ref b47), .unset, .unset, .unset, .unset, .unset, .unset, .unset, .unset, .unset, .unset, .unset] [(.int ((((((w0.toUInt64 >>> ((40 : Int32) &&& 0x3f).toInt64.toUInt64).toInt64)).toInt32)).toInt8.toInt32)), (.int (2 : Int32)), (.ref b47)])) rfl rfl (hb hby at_35)
  have A60 := A56.storeI W59
  have Z61 : n0 ≤ h59.size := W59.size ▸ Z57
  have N62 := Fr.snoc X59 N58 g48
  obtain ⟨T63, h63, X63, e63, W63, st63⟩ := own_bast X59 hx hZ e59 A60 (k := 3) ⟨by decide, rfl, by decide⟩ (g := (mkF m 45 #[.val (.long w0), .second, .val (.long w1), .second, .val (.int ff), .val (.int ll), .val (.ref b47), .unset, .unset, .unset, .unset, .unset, .unset, .unset, .unset, .unset, .unset, .unset] [(.int ((((((w0.toUInt64 >>> ((32 : Int32) &&& 0x3f).toInt64.toUInt64).toInt64)).toInt32)).toInt8.toInt32)), (.int (3 : Int32)), (.ref b47)])) rfl rfl (hb hby at_45)
  have A64 := A60.storeI W63
  have Z65 : n0 ≤ h63.size := W63.size ▸ Z61
  have N66 := Fr.snoc X63 N62 g48
  obtain ⟨T67, h67, X67, e67, W67, st67⟩ := own_bast X63 hx hZ e63 A64 (k := 4) ⟨by decide, rfl, by decide⟩ (g := (mkF m 55 #[.val (.long w0), .second, .val (.long w1), .second, .val (.int ff), .val (.int ll), .val (.ref b47), .unset, .unset, .unset, .unset, .unset, .unset, .unset, .unset, .unset, .unset, .unset] [(.int ((((((w0.toUInt64 >>> ((24 : Int32) &&& 0x3f).toInt64.toUInt64).toInt64)).toInt32)).toInt8.toInt32)), (.int (4 : Int32)), (.ref b47)])) rfl rfl (hb hby at_55)
  have A68 := A64.storeI W67
  have Z69 : n0 ≤ h67.size := W67.size ▸ Z65
  have N70 := Fr.snoc X67 N66 g48
  obtain ⟨T71, h71, X71, e71, W71, st71⟩ := own_bast X67 hx hZ e67 A68 (k := 5) ⟨by decide, rfl, by decide⟩ (g := (mkF m 65 #[.val (.long w0), .second, .val (.long w1), .second, .val (.int ff), .val (.int ll), .val (.ref b47), .unset, .unset, .unset, .unset, .unset, .unset, .unset, .unset, .unset, .unset, .unset] [(.int ((((((w0.toUInt64 >>> ((16 : Int32) &&& 0x3f).toInt64.toUInt64).toInt64)).toInt32)).toInt8.toInt32)), (.int (5 : Int32)), (.ref b47)])) rfl rfl (hb hby at_65)
  have A72 := A68.storeI W71
  have Z73 : n0 ≤ h71.size := W71.size ▸ Z69
  have N74 := Fr.snoc X71 N70 g48
  obtain ⟨T75, h75, X75, e75, W75, st75⟩ := own_bast X71 hx hZ e71 A72 (k := 6) ⟨by decide, rfl, by decide⟩ (g := (mkF m 76 #[.val (.long w0), .second, .val (.long w1), .second, .val (.int ff), .val (.int ll), .val (.ref b47), .unset, .unset, .unset, .unset, .unset, .unset, .unset, .unset, .unset, .unset, .unset] [(.int ((((((w0.toUInt64 >>> ((8 : Int32) &&& 0x3f).toInt64.toUInt64).toInt64)).toInt32)).toInt8.toInt32)), (.int (6 : Int32)), (.ref b47)])) rfl rfl (hb hby at_76)
  have A76 := A72.storeI W75
  have Z77 : n0 ≤ h75.size := W75.size ▸ Z73
  have N78 := Fr.snoc X75 N74 g48
  obtain ⟨T79, h79, X79, e79, W79, st79⟩ := own_bast X75 hx hZ e75 A76 (k := 7) ⟨by decide, rfl, by decide⟩ (g := (mkF m 84 #[.val (.long w0), .second, .val (.long w1), .second, .val (.int ff), .val (.int ll), .val (.ref b47), .unset, .unset, .unset, .unset, .unset, .unset, .unset, .unset, .unset, .unset, .unset] [(.int ((((w0).toInt32)).toInt8.toInt32)), (.int (7 : Int32)), (.ref b47)])) rfl rfl (hb hby at_84)
  have A80 := A76.storeI W79
  have Z81 : n0 ≤ h79.size := W79.size ▸ Z77
  have N82 := Fr.snoc X79 N78 g48
  obtain ⟨T83, h83, X83, e83, W83, st83⟩ := own_bast X79 hx hZ e79 A80 (k := 8) ⟨by decide, rfl, by decide⟩ (g := (mkF m 95 #[.val (.long w0), .second, .val (.long w1), .second, .val (.int ff), .val (.int ll), .val (.ref b47), .unset, .unset, .unset, .unset, .unset, .unset, .unset, .unset, .unset, .unset, .unset] [(.int ((((((w1.toUInt64 >>> ((24 : Int32) &&& 0x3f).toInt64.toUInt64).toInt64)).toInt32)).toInt8.toInt32)), (.int (8 : Int32)), (.ref b47)])) rfl rfl (hb hby at_95)
  have A84 := A80.storeI W83
  have Z85 : n0 ≤ h83.size := W83.size ▸ Z81
  have N86 := Fr.snoc X83 N82 g48
  obtain ⟨T87, h87, X87, e87, W87, st87⟩ := own_bast X83 hx hZ e83 A84 (k := 9) ⟨by decide, rfl, by decide⟩ (g := (mkF m 106 #[.val (.long w0), .second, .val (.long w1), .second, .val (.int ff), .val (.int ll), .val (.ref b47), .unset, .unset, .unset, .unset, .unset, .unset, .unset, .unset, .unset, .unset, .unset] [(.int ((((((w1.toUInt64 >>> ((16 : Int32) &&& 0x3f).toInt64.toUInt64).toInt64)).toInt32)).toInt8.toInt32)), (.int (9 : Int32)), (.ref b47)])) rfl rfl (hb hby at_106)
  have A88 := A84.storeI W87
  have Z89 : n0 ≤ h87.size := W87.size ▸ Z85
  have N90 := Fr.snoc X87 N86 g48
  obtain ⟨T91, h91, X91, e91, W91, st91⟩ := own_bast X87 hx hZ e87 A88 (k := 10) ⟨by decide, rfl, by decide⟩ (g := (mkF m 117 #[.val (.long w0), .second, .val (.long w1), .second, .val (.int ff), .val (.int ll), .val (.ref b47), .unset, .unset, .unset, .unset, .unset, .unset, .unset, .unset, .unset, .unset, .unset] [(.int ((((((w1.toUInt64 >>> ((8 : Int32) &&& 0x3f).toInt64.toUInt64).toInt64)).toInt32)).toInt8.toInt32)), (.int (10 : Int32)), (.ref b47)])) rfl rfl (hb hby at_117)
  have A92 := A88.storeI W91
  have Z93 : n0 ≤ h91.size := W91.size ▸ Z89
  have N94 := Fr.snoc X91 N90 g48
  obtain ⟨T95, h95, X95, e95, W95, st95⟩ := own_bast X91 hx hZ e91 A92 (k := 11) ⟨by decide, rfl, by decide⟩ (g := (mkF m 125 #[.val (.long w0), .second, .val (.long w1), .second, .val (.int ff), .val (.int ll), .val (.ref b47), .unset, .unset, .unset, .unset, .unset, .unset, .unset, .unset, .unset, .unset, .unset] [(.int ((((w1).toInt32)).toInt8.toInt32)), (.int (11 : Int32)), (.ref b47)])) rfl rfl (hb hby at_125)
  have A96 := A92.storeI W95
  have Z97 : n0 ≤ h95.size := W95.size ▸ Z93
  have N98 := Fr.snoc X95 N94 g48
  have k99 : ∀ t, Steps p.tables e below (T95.setTop (mkF m 135 #[.val (.long w0), .second, .val (.long w1), .second, .val (.int ff), .val (.int ll), .val (.ref b47), .val (.int ((ff &&& (2147483647 : Int32)) % (5 : Int32))), .unset, .unset, .unset, .unset, .unset, .unset, .unset, .unset, .unset, .unset] [])) t → Steps p.tables e below (s₁.setTop (entryFrame m #[(.long w0), (.long w1), (.int ff), (.int ll)] maxLocals)) t := fun t hk => pre0 t (by
    show Steps p.tables e below (s₁.setTop (mkF m 0 #[.val (.long w0), .second, .val (.long w1), .second, .val (.int ff), .val (.int ll), .unset, .unset, .unset, .unset, .unset, .unset, .unset, .unset, .unset, .unset, .unset, .unset] [])) _
    refine XS.bipush X0.here hx rfl (hb hby at_0) ?_
    show Steps p.tables e below (s₁.setTop (mkF m 2 #[.val (.long w0), .second, .val (.long w1), .second, .val (.int ff), .val (.int ll), .unset, .unset, .unset, .unset, .unset, .unset, .unset, .unset, .unset, .unset, .unset, .unset] [(.int (12 : Int32))])) _
    refine st47 _ ?_
    show Steps p.tables e below (T47.setTop (mkF m 4 #[.val (.long w0), .second, .val (.long w1), .second, .val (.int ff), .val (.int ll), .unset, .unset, .unset, .unset, .unset, .unset, .unset, .unset, .unset, .unset, .unset, .unset] [(.ref b47)])) _
    refine XS.astore X47.here hx rfl (hb hby at_4) rfl rfl (l' := #[.val (.long w0), .second, .val (.long w1), .second, .val (.int ff), .val (.int ll), .val (.ref b47), .unset, .unset, .unset, .unset, .unset, .unset, .unset, .unset, .unset, .unset, .unset]) rfl ?_
    show Steps p.tables e below (T47.setTop (mkF m 6 #[.val (.long w0), .second, .val (.long w1), .second, .val (.int ff), .val (.int ll), .val (.ref b47), .unset, .unset, .unset, .unset, .unset, .unset, .unset, .unset, .unset, .unset, .unset] [])) _
    refine XS.aload X47.here hx rfl (hb hby at_6) rfl rfl ?_
    show Steps p.tables e below (T47.setTop (mkF m 8 #[.val (.long w0), .second, .val (.long w1), .second, .val (.int ff), .val (.int ll), .val (.ref b47), .unset, .unset, .unset, .unset, .unset, .unset, .unset, .unset, .unset, .unset, .unset] [(.ref b47)])) _
    refine XS.iconst X47.here hx rfl (hb hby at_8) ?_
    show Steps p.tables e below (T47.setTop (mkF m 9 #[.val (.long w0), .second, .val (.long w1), .second, .val (.int ff), .val (.int ll), .val (.ref b47), .unset, .unset, .unset, .unset, .unset, .unset, .unset, .unset, .unset, .unset, .unset] [(.int (0 : Int32)), (.ref b47)])) _
    refine XS.lloadN X47.here hx rfl (hb hby at_9) rfl ?_
    show Steps p.tables e below (T47.setTop (mkF m 10 #[.val (.long w0), .second, .val (.long w1), .second, .val (.int ff), .val (.int ll), .val (.ref b47), .unset, .unset, .unset, .unset, .unset, .unset, .unset, .unset, .unset, .unset, .unset] [(.long w0), (.int (0 : Int32)), (.ref b47)])) _
    refine XS.bipush X47.here hx rfl (hb hby at_10) ?_
    show Steps p.tables e below (T47.setTop (mkF m 12 #[.val (.long w0), .second, .val (.long w1), .second, .val (.int ff), .val (.int ll), .val (.ref b47), .unset, .unset, .unset, .unset, .unset, .unset, .unset, .unset, .unset, .unset, .unset] [(.int (56 : Int32)), (.long w0), (.int (0 : Int32)), (.ref b47)])) _
    refine XS.lushr X47.here hx rfl (hb hby at_12) rfl ?_
    show Steps p.tables e below (T47.setTop (mkF m 13 #[.val (.long w0), .second, .val (.long w1), .second, .val (.int ff), .val (.int ll), .val (.ref b47), .unset, .unset, .unset, .unset, .unset, .unset, .unset, .unset, .unset, .unset, .unset] [(.long ((w0.toUInt64 >>> ((56 : Int32) &&& 0x3f).toInt64.toUInt64).toInt64)), (.int (0 : Int32)), (.ref b47)])) _
    refine XS.l2i X47.here hx rfl (hb hby at_13) rfl ?_
    show Steps p.tables e below (T47.setTop (mkF m 14 #[.val (.long w0), .second, .val (.long w1), .second, .val (.int ff), .val (.int ll), .val (.ref b47), .unset, .unset, .unset, .unset, .unset, .unset, .unset, .unset, .unset, .unset, .unset] [(.int ((((w0.toUInt64 >>> ((56 : Int32) &&& 0x3f).toInt64.toUInt64).toInt64)).toInt32)), (.int (0 : Int32)), (.ref b47)])) _
    refine XS.i2b X47.here hx rfl (hb hby at_14) rfl ?_
    show Steps p.tables e below (T47.setTop (mkF m 15 #[.val (.long w0), .second, .val (.long w1), .second, .val (.int ff), .val (.int ll), .val (.ref b47), .unset, .unset, .unset, .unset, .unset, .unset, .unset, .unset, .unset, .unset, .unset] [(.int ((((((w0.toUInt64 >>> ((56 : Int32) &&& 0x3f).toInt64.toUInt64).toInt64)).toInt32)).toInt8.toInt32)), (.int (0 : Int32)), (.ref b47)])) _
    refine st51 _ ?_
    show Steps p.tables e below (T51.setTop (mkF m 16 #[.val (.long w0), .second, .val (.long w1), .second, .val (.int ff), .val (.int ll), .val (.ref b47), .unset, .unset, .unset, .unset, .unset, .unset, .unset, .unset, .unset, .unset, .unset] [])) _
    refine XS.aload X51.here hx rfl (hb hby at_16) rfl rfl ?_
    show Steps p.tables e below (T51.setTop (mkF m 18 #[.val (.long w0), .second, .val (.long w1), .second, .val (.int ff), .val (.int ll), .val (.ref b47), .unset, .unset, .unset, .unset, .unset, .unset, .unset, .unset, .unset, .unset, .unset] [(.ref b47)])) _
    refine XS.iconst X51.here hx rfl (hb hby at_18) ?_
    show Steps p.tables e below (T51.setTop (mkF m 19 #[.val (.long w0), .second, .val (.long w1), .second, .val (.int ff), .val (.int ll), .val (.ref b47), .unset, .unset, .unset, .unset, .unset, .unset, .unset, .unset, .unset, .unset, .unset] [(.int (1 : Int32)), (.ref b47)])) _
    refine XS.lloadN X51.here hx rfl (hb hby at_19) rfl ?_
    show Steps p.tables e below (T51.setTop (mkF m 20 #[.val (.long w0), .second, .val (.long w1), .second, .val (.int ff), .val (.int ll), .val (.ref b47), .unset, .unset, .unset, .unset, .unset, .unset, .unset, .unset, .unset, .unset, .unset] [(.long w0), (.int (1 : Int32)), (.ref b47)])) _
    refine XS.bipush X51.here hx rfl (hb hby at_20) ?_
    show Steps p.tables e below (T51.setTop (mkF m 22 #[.val (.long w0), .second, .val (.long w1), .second, .val (.int ff), .val (.int ll), .val (.ref b47), .unset, .unset, .unset, .unset, .unset, .unset, .unset, .unset, .unset, .unset, .unset] [(.int (48 : Int32)), (.long w0), (.int (1 : Int32)), (.ref b47)])) _
    refine XS.lushr X51.here hx rfl (hb hby at_22) rfl ?_
    show Steps p.tables e below (T51.setTop (mkF m 23 #[.val (.long w0), .second, .val (.long w1), .second, .val (.int ff), .val (.int ll), .val (.ref b47), .unset, .unset, .unset, .unset, .unset, .unset, .unset, .unset, .unset, .unset, .unset] [(.long ((w0.toUInt64 >>> ((48 : Int32) &&& 0x3f).toInt64.toUInt64).toInt64)), (.int (1 : Int32)), (.ref b47)])) _
    refine XS.l2i X51.here hx rfl (hb hby at_23) rfl ?_
    show Steps p.tables e below (T51.setTop (mkF m 24 #[.val (.long w0), .second, .val (.long w1), .second, .val (.int ff), .val (.int ll), .val (.ref b47), .unset, .unset, .unset, .unset, .unset, .unset, .unset, .unset, .unset, .unset, .unset] [(.int ((((w0.toUInt64 >>> ((48 : Int32) &&& 0x3f).toInt64.toUInt64).toInt64)).toInt32)), (.int (1 : Int32)), (.ref b47)])) _
    refine XS.i2b X51.here hx rfl (hb hby at_24) rfl ?_
    show Steps p.tables e below (T51.setTop (mkF m 25 #[.val (.long w0), .second, .val (.long w1), .second, .val (.int ff), .val (.int ll), .val (.ref b47), .unset, .unset, .unset, .unset, .unset, .unset, .unset, .unset, .unset, .unset, .unset] [(.int ((((((w0.toUInt64 >>> ((48 : Int32) &&& 0x3f).toInt64.toUInt64).toInt64)).toInt32)).toInt8.toInt32)), (.int (1 : Int32)), (.ref b47)])) _
    refine st55 _ ?_
    show Steps p.tables e below (T55.setTop (mkF m 26 #[.val (.long w0), .second, .val (.long w1), .second, .val (.int ff), .val (.int ll), .val (.ref b47), .unset, .unset, .unset, .unset, .unset, .unset, .unset, .unset, .unset, .unset, .unset] [])) _
    refine XS.aload X55.here hx rfl (hb hby at_26) rfl rfl ?_
    show Steps p.tables e below (T55.setTop (mkF m 28 #[.val (.long w0), .second, .val (.long w1), .second, .val (.int ff), .val (.int ll), .val (.ref b47), .unset, .unset, .unset, .unset, .unset, .unset, .unset, .unset, .unset, .unset, .unset] [(.ref b47)])) _
    refine XS.iconst X55.here hx rfl (hb hby at_28) ?_
    show Steps p.tables e below (T55.setTop (mkF m 29 #[.val (.long w0), .second, .val (.long w1), .second, .val (.int ff), .val (.int ll), .val (.ref b47), .unset, .unset, .unset, .unset, .unset, .unset, .unset, .unset, .unset, .unset, .unset] [(.int (2 : Int32)), (.ref b47)])) _
    refine XS.lloadN X55.here hx rfl (hb hby at_29) rfl ?_
    show Steps p.tables e below (T55.setTop (mkF m 30 #[.val (.long w0), .second, .val (.long w1), .second, .val (.int ff), .val (.int ll), .val (.ref b47), .unset, .unset, .unset, .unset, .unset, .unset, .unset, .unset, .unset, .unset, .unset] [(.long w0), (.int (2 : Int32)), (.ref b47)])) _
    refine XS.bipush X55.here hx rfl (hb hby at_30) ?_
    show Steps p.tables e below (T55.setTop (mkF m 32 #[.val (.long w0), .second, .val (.long w1), .second, .val (.int ff), .val (.int ll), .val (.ref b47), .unset, .unset, .unset, .unset, .unset, .unset, .unset, .unset, .unset, .unset, .unset] [(.int (40 : Int32)), (.long w0), (.int (2 : Int32)), (.ref b47)])) _
    refine XS.lushr X55.here hx rfl (hb hby at_32) rfl ?_
    show Steps p.tables e below (T55.setTop (mkF m 33 #[.val (.long w0), .second, .val (.long w1), .second, .val (.int ff), .val (.int ll), .val (.ref b47), .unset, .unset, .unset, .unset, .unset, .unset, .unset, .unset, .unset, .unset, .unset] [(.long ((w0.toUInt64 >>> ((40 : Int32) &&& 0x3f).toInt64.toUInt64).toInt64)), (.int (2 : Int32)), (.ref b47)])) _
    refine XS.l2i X55.here hx rfl (hb hby at_33) rfl ?_
    show Steps p.tables e below (T55.setTop (mkF m 34 #[.val (.long w0), .second, .val (.long w1), .second, .val (.int ff), .val (.int ll), .val (.ref b47), .unset, .unset, .unset, .unset, .unset, .unset, .unset, .unset, .unset, .unset, .unset] [(.int ((((w0.toUInt64 >>> ((40 : Int32) &&& 0x3f).toInt64.toUInt64).toInt64)).toInt32)), (.int (2 : Int32)), (.ref b47)])) _
    refine XS.i2b X55.here hx rfl (hb hby at_34) rfl ?_
    show Steps p.tables e below (T55.setTop (mkF m 35 #[.val (.long w0), .second, .val (.long w1), .second, .val (.int ff), .val (.int ll), .val (.ref b47), .unset, .unset, .unset, .unset, .unset, .unset, .unset, .unset, .unset, .unset, .unset] [(.int ((((((w0.toUInt64 >>> ((40 : Int32) &&& 0x3f).toInt64.toUInt64).toInt64)).toInt32)).toInt8.toInt32)), (.int (2 : Int32)), (.ref b47)])) _
    refine st59 _ ?_
    show Steps p.tables e below (T59.setTop (mkF m 36 #[.val (.long w0), .second, .val (.long w1), .second, .val (.int ff), .val (.int ll), .val (.ref b47), .unset, .unset, .unset, .unset, .unset, .unset, .unset, .unset, .unset, .unset, .unset] [])) _
    refine XS.aload X59.here hx rfl (hb hby at_36) rfl rfl ?_
    show Steps p.tables e below (T59.setTop (mkF m 38 #[.val (.long w0), .second, .val (.long w1), .second, .val (.int ff), .val (.int ll), .val (.ref b47), .unset, .unset, .unset, .unset, .unset, .unset, .unset, .unset, .unset, .unset, .unset] [(.ref b47)])) _
    refine XS.iconst X59.here hx rfl (hb hby at_38) ?_
    show Steps p.tables e below (T59.setTop (mkF m 39 #[.val (.long w0), .second, .val (.long w1), .second, .val (.int ff), .val (.int ll), .val (.ref b47), .unset, .unset, .unset, .unset, .unset, .unset, .unset, .unset, .unset, .unset, .unset] [(.int (3 : Int32)), (.ref b47)])) _
    refine XS.lloadN X59.here hx rfl (hb hby at_39) rfl ?_
    show Steps p.tables e below (T59.setTop (mkF m 40 #[.val (.long w0), .second, .val (.long w1), .second, .val (.int ff), .val (.int ll), .val (.ref b47), .unset, .unset, .unset, .unset, .unset, .unset, .unset, .unset, .unset, .unset, .unset] [(.long w0), (.int (3 : Int32)), (.ref b47)])) _
    refine XS.bipush X59.here hx rfl (hb hby at_40) ?_
    show Steps p.tables e below (T59.setTop (mkF m 42 #[.val (.long w0), .second, .val (.long w1), .second, .val (.int ff), .val (.int ll), .val (.ref b47), .unset, .unset, .unset, .unset, .unset, .unset, .unset, .unset, .unset, .unset, .unset] [(.int (32 : Int32)), (.long w0), (.int (3 : Int32)), (.ref b47)])) _
    refine XS.lushr X59.here hx rfl (hb hby at_42) rfl ?_
    show Steps p.tables e below (T59.setTop (mkF m 43 #[.val (.long w0), .second, .val (.long w1), .second, .val (.int ff), .val (.int ll), .val (.ref b47), .unset, .unset, .unset, .unset, .unset, .unset, .unset, .unset, .unset, .unset, .unset] [(.long ((w0.toUInt64 >>> ((32 : Int32) &&& 0x3f).toInt64.toUInt64).toInt64)), (.int (3 : Int32)), (.ref b47)])) _
    refine XS.l2i X59.here hx rfl (hb hby at_43) rfl ?_
    show Steps p.tables e below (T59.setTop (mkF m 44 #[.val (.long w0), .second, .val (.long w1), .second, .val (.int ff), .val (.int ll), .val (.ref b47), .unset, .unset, .unset, .unset, .unset, .unset, .unset, .unset, .unset, .unset, .unset] [(.int ((((w0.toUInt64 >>> ((32 : Int32) &&& 0x3f).toInt64.toUInt64).toInt64)).toInt32)), (.int (3 : Int32)), (.ref b47)])) _
    refine XS.i2b X59.here hx rfl (hb hby at_44) rfl ?_
    show Steps p.tables e below (T59.setTop (mkF m 45 #[.val (.long w0), .second, .val (.long w1), .second, .val (.int ff), .val (.int ll), .val (.ref b47), .unset, .unset, .unset, .unset, .unset, .unset, .unset, .unset, .unset, .unset, .unset] [(.int ((((((w0.toUInt64 >>> ((32 : Int32) &&& 0x3f).toInt64.toUInt64).toInt64)).toInt32)).toInt8.toInt32)), (.int (3 : Int32)), (.ref b47)])) _
    refine st63 _ ?_
    show Steps p.tables e below (T63.setTop (mkF m 46 #[.val (.long w0), .second, .val (.long w1), .second, .val (.int ff), .val (.int ll), .val (.ref b47), .unset, .unset, .unset, .unset, .unset, .unset, .unset, .unset, .unset, .unset, .unset] [])) _
    refine XS.aload X63.here hx rfl (hb hby at_46) rfl rfl ?_
    show Steps p.tables e below (T63.setTop (mkF m 48 #[.val (.long w0), .second, .val (.long w1), .second, .val (.int ff), .val (.int ll), .val (.ref b47), .unset, .unset, .unset, .unset, .unset, .unset, .unset, .unset, .unset, .unset, .unset] [(.ref b47)])) _
    refine XS.iconst X63.here hx rfl (hb hby at_48) ?_
    show Steps p.tables e below (T63.setTop (mkF m 49 #[.val (.long w0), .second, .val (.long w1), .second, .val (.int ff), .val (.int ll), .val (.ref b47), .unset, .unset, .unset, .unset, .unset, .unset, .unset, .unset, .unset, .unset, .unset] [(.int (4 : Int32)), (.ref b47)])) _
    refine XS.lloadN X63.here hx rfl (hb hby at_49) rfl ?_
    show Steps p.tables e below (T63.setTop (mkF m 50 #[.val (.long w0), .second, .val (.long w1), .second, .val (.int ff), .val (.int ll), .val (.ref b47), .unset, .unset, .unset, .unset, .unset, .unset, .unset, .unset, .unset, .unset, .unset] [(.long w0), (.int (4 : Int32)), (.ref b47)])) _
    refine XS.bipush X63.here hx rfl (hb hby at_50) ?_
    show Steps p.tables e below (T63.setTop (mkF m 52 #[.val (.long w0), .second, .val (.long w1), .second, .val (.int ff), .val (.int ll), .val (.ref b47), .unset, .unset, .unset, .unset, .unset, .unset, .unset, .unset, .unset, .unset, .unset] [(.int (24 : Int32)), (.long w0), (.int (4 : Int32)), (.ref b47)])) _
    refine XS.lushr X63.here hx rfl (hb hby at_52) rfl ?_
    show Steps p.tables e below (T63.setTop (mkF m 53 #[.val (.long w0), .second, .val (.long w1), .second, .val (.int ff), .val (.int ll), .val (.ref b47), .unset, .unset, .unset, .unset, .unset, .unset, .unset, .unset, .unset, .unset, .unset] [(.long ((w0.toUInt64 >>> ((24 : Int32) &&& 0x3f).toInt64.toUInt64).toInt64)), (.int (4 : Int32)), (.ref b47)])) _
    refine XS.l2i X63.here hx rfl (hb hby at_53) rfl ?_
    show Steps p.tables e below (T63.setTop (mkF m 54 #[.val (.long w0), .second, .val (.long w1), .second, .val (.int ff), .val (.int ll), .val (.ref b47), .unset, .unset, .unset, .unset, .unset, .unset, .unset, .unset, .unset, .unset, .unset] [(.int ((((w0.toUInt64 >>> ((24 : Int32) &&& 0x3f).toInt64.toUInt64).toInt64)).toInt32)), (.int (4 : Int32)), (.ref b47)])) _
    refine XS.i2b X63.here hx rfl (hb hby at_54) rfl ?_
    show Steps p.tables e below (T63.setTop (mkF m 55 #[.val (.long w0), .second, .val (.long w1), .second, .val (.int ff), .val (.int ll), .val (.ref b47), .unset, .unset, .unset, .unset, .unset, .unset, .unset, .unset, .unset, .unset, .unset] [(.int ((((((w0.toUInt64 >>> ((24 : Int32) &&& 0x3f).toInt64.toUInt64).toInt64)).toInt32)).toInt8.toInt32)), (.int (4 : Int32)), (.ref b47)])) _
    refine st67 _ ?_
    show Steps p.tables e below (T67.setTop (mkF m 56 #[.val (.long w0), .second, .val (.long w1), .second, .val (.int ff), .val (.int ll), .val (.ref b47), .unset, .unset, .unset, .unset, .unset, .unset, .unset, .unset, .unset, .unset, .unset] [])) _
    refine XS.aload X67.here hx rfl (hb hby at_56) rfl rfl ?_
    show Steps p.tables e below (T67.setTop (mkF m 58 #[.val (.long w0), .second, .val (.long w1), .second, .val (.int ff), .val (.int ll), .val (.ref b47), .unset, .unset, .unset, .unset, .unset, .unset, .unset, .unset, .unset, .unset, .unset] [(.ref b47)])) _
    refine XS.iconst X67.here hx rfl (hb hby at_58) ?_
    show Steps p.tables e below (T67.setTop (mkF m 59 #[.val (.long w0), .second, .val (.long w1), .second, .val (.int ff), .val (.int ll), .val (.ref b47), .unset, .unset, .unset, .unset, .unset, .unset, .unset, .unset, .unset, .unset, .unset] [(.int (5 : Int32)), (.ref b47)])) _
    refine XS.lloadN X67.here hx rfl (hb hby at_59) rfl ?_
    show Steps p.tables e below (T67.setTop (mkF m 60 #[.val (.long w0), .second, .val (.long w1), .second, .val (.int ff), .val (.int ll), .val (.ref b47), .unset, .unset, .unset, .unset, .unset, .unset, .unset, .unset, .unset, .unset, .unset] [(.long w0), (.int (5 : Int32)), (.ref b47)])) _
    refine XS.bipush X67.here hx rfl (hb hby at_60) ?_
    show Steps p.tables e below (T67.setTop (mkF m 62 #[.val (.long w0), .second, .val (.long w1), .second, .val (.int ff), .val (.int ll), .val (.ref b47), .unset, .unset, .unset, .unset, .unset, .unset, .unset, .unset, .unset, .unset, .unset] [(.int (16 : Int32)), (.long w0), (.int (5 : Int32)), (.ref b47)])) _
    refine XS.lushr X67.here hx rfl (hb hby at_62) rfl ?_
    show Steps p.tables e below (T67.setTop (mkF m 63 #[.val (.long w0), .second, .val (.long w1), .second, .val (.int ff), .val (.int ll), .val (.ref b47), .unset, .unset, .unset, .unset, .unset, .unset, .unset, .unset, .unset, .unset, .unset] [(.long ((w0.toUInt64 >>> ((16 : Int32) &&& 0x3f).toInt64.toUInt64).toInt64)), (.int (5 : Int32)), (.ref b47)])) _
    refine XS.l2i X67.here hx rfl (hb hby at_63) rfl ?_
    show Steps p.tables e below (T67.setTop (mkF m 64 #[.val (.long w0), .second, .val (.long w1), .second, .val (.int ff), .val (.int ll), .val (.ref b47), .unset, .unset, .unset, .unset, .unset, .unset, .unset, .unset, .unset, .unset, .unset] [(.int ((((w0.toUInt64 >>> ((16 : Int32) &&& 0x3f).toInt64.toUInt64).toInt64)).toInt32)), (.int (5 : Int32)), (.ref b47)])) _
    refine XS.i2b X67.here hx rfl (hb hby at_64) rfl ?_
    show Steps p.tables e below (T67.setTop (mkF m 65 #[.val (.long w0), .second, .val (.long w1), .second, .val (.int ff), .val (.int ll), .val (.ref b47), .unset, .unset, .unset, .unset, .unset, .unset, .unset, .unset, .unset, .unset, .unset] [(.int ((((((w0.toUInt64 >>> ((16 : Int32) &&& 0x3f).toInt64.toUInt64).toInt64)).toInt32)).toInt8.toInt32)), (.int (5 : Int32)), (.ref b47)])) _
    refine st71 _ ?_
    show Steps p.tables e below (T71.setTop (mkF m 66 #[.val (.long w0), .second, .val (.long w1), .second, .val (.int ff), .val (.int ll), .val (.ref b47), .unset, .unset, .unset, .unset, .unset, .unset, .unset, .unset, .unset, .unset, .unset] [])) _
    refine XS.aload X71.here hx rfl (hb hby at_66) rfl rfl ?_
    show Steps p.tables e below (T71.setTop (mkF m 68 #[.val (.long w0), .second, .val (.long w1), .second, .val (.int ff), .val (.int ll), .val (.ref b47), .unset, .unset, .unset, .unset, .unset, .unset, .unset, .unset, .unset, .unset, .unset] [(.ref b47)])) _
    refine XS.bipush X71.here hx rfl (hb hby at_68) ?_
    show Steps p.tables e below (T71.setTop (mkF m 70 #[.val (.long w0), .second, .val (.long w1), .second, .val (.int ff), .val (.int ll), .val (.ref b47), .unset, .unset, .unset, .unset, .unset, .unset, .unset, .unset, .unset, .unset, .unset] [(.int (6 : Int32)), (.ref b47)])) _
    refine XS.lloadN X71.here hx rfl (hb hby at_70) rfl ?_
    show Steps p.tables e below (T71.setTop (mkF m 71 #[.val (.long w0), .second, .val (.long w1), .second, .val (.int ff), .val (.int ll), .val (.ref b47), .unset, .unset, .unset, .unset, .unset, .unset, .unset, .unset, .unset, .unset, .unset] [(.long w0), (.int (6 : Int32)), (.ref b47)])) _
    refine XS.bipush X71.here hx rfl (hb hby at_71) ?_
    show Steps p.tables e below (T71.setTop (mkF m 73 #[.val (.long w0), .second, .val (.long w1), .second, .val (.int ff), .val (.int ll), .val (.ref b47), .unset, .unset, .unset, .unset, .unset, .unset, .unset, .unset, .unset, .unset, .unset] [(.int (8 : Int32)), (.long w0), (.int (6 : Int32)), (.ref b47)])) _
    refine XS.lushr X71.here hx rfl (hb hby at_73) rfl ?_
    show Steps p.tables e below (T71.setTop (mkF m 74 #[.val (.long w0), .second, .val (.long w1), .second, .val (.int ff), .val (.int ll), .val (.ref b47), .unset, .unset, .unset, .unset, .unset, .unset, .unset, .unset, .unset, .unset, .unset] [(.long ((w0.toUInt64 >>> ((8 : Int32) &&& 0x3f).toInt64.toUInt64).toInt64)), (.int (6 : Int32)), (.ref b47)])) _
    refine XS.l2i X71.here hx rfl (hb hby at_74) rfl ?_
    show Steps p.tables e below (T71.setTop (mkF m 75 #[.val (.long w0), .second, .val (.long w1), .second, .val (.int ff), .val (.int ll), .val (.ref b47), .unset, .unset, .unset, .unset, .unset, .unset, .unset, .unset, .unset, .unset, .unset] [(.int ((((w0.toUInt64 >>> ((8 : Int32) &&& 0x3f).toInt64.toUInt64).toInt64)).toInt32)), (.int (6 : Int32)), (.ref b47)])) _
    refine XS.i2b X71.here hx rfl (hb hby at_75) rfl ?_
    show Steps p.tables e below (T71.setTop (mkF m 76 #[.val (.long w0), .second, .val (.long w1), .second, .val (.int ff), .val (.int ll), .val (.ref b47), .unset, .unset, .unset, .unset, .unset, .unset, .unset, .unset, .unset, .unset, .unset] [(.int ((((((w0.toUInt64 >>> ((8 : Int32) &&& 0x3f).toInt64.toUInt64).toInt64)).toInt32)).toInt8.toInt32)), (.int (6 : Int32)), (.ref b47)])) _
    refine st75 _ ?_
    show Steps p.tables e below (T75.setTop (mkF m 77 #[.val (.long w0), .second, .val (.long w1), .second, .val (.int ff), .val (.int ll), .val (.ref b47), .unset, .unset, .unset, .unset, .unset, .unset, .unset, .unset, .unset, .unset, .unset] [])) _
    refine XS.aload X75.here hx rfl (hb hby at_77) rfl rfl ?_
    show Steps p.tables e below (T75.setTop (mkF m 79 #[.val (.long w0), .second, .val (.long w1), .second, .val (.int ff), .val (.int ll), .val (.ref b47), .unset, .unset, .unset, .unset, .unset, .unset, .unset, .unset, .unset, .unset, .unset] [(.ref b47)])) _
    refine XS.bipush X75.here hx rfl (hb hby at_79) ?_
    show Steps p.tables e below (T75.setTop (mkF m 81 #[.val (.long w0), .second, .val (.long w1), .second, .val (.int ff), .val (.int ll), .val (.ref b47), .unset, .unset, .unset, .unset, .unset, .unset, .unset, .unset, .unset, .unset, .unset] [(.int (7 : Int32)), (.ref b47)])) _
    refine XS.lloadN X75.here hx rfl (hb hby at_81) rfl ?_
    show Steps p.tables e below (T75.setTop (mkF m 82 #[.val (.long w0), .second, .val (.long w1), .second, .val (.int ff), .val (.int ll), .val (.ref b47), .unset, .unset, .unset, .unset, .unset, .unset, .unset, .unset, .unset, .unset, .unset] [(.long w0), (.int (7 : Int32)), (.ref b47)])) _
    refine XS.l2i X75.here hx rfl (hb hby at_82) rfl ?_
    show Steps p.tables e below (T75.setTop (mkF m 83 #[.val (.long w0), .second, .val (.long w1), .second, .val (.int ff), .val (.int ll), .val (.ref b47), .unset, .unset, .unset, .unset, .unset, .unset, .unset, .unset, .unset, .unset, .unset] [(.int ((w0).toInt32)), (.int (7 : Int32)), (.ref b47)])) _
    refine XS.i2b X75.here hx rfl (hb hby at_83) rfl ?_
    show Steps p.tables e below (T75.setTop (mkF m 84 #[.val (.long w0), .second, .val (.long w1), .second, .val (.int ff), .val (.int ll), .val (.ref b47), .unset, .unset, .unset, .unset, .unset, .unset, .unset, .unset, .unset, .unset, .unset] [(.int ((((w0).toInt32)).toInt8.toInt32)), (.int (7 : Int32)), (.ref b47)])) _
    refine st79 _ ?_
    show Steps p.tables e below (T79.setTop (mkF m 85 #[.val (.long w0), .second, .val (.long w1), .second, .val (.int ff), .val (.int ll), .val (.ref b47), .unset, .unset, .unset, .unset, .unset, .unset, .unset, .unset, .unset, .unset, .unset] [])) _
    refine XS.aload X79.here hx rfl (hb hby at_85) rfl rfl ?_
    show Steps p.tables e below (T79.setTop (mkF m 87 #[.val (.long w0), .second, .val (.long w1), .second, .val (.int ff), .val (.int ll), .val (.ref b47), .unset, .unset, .unset, .unset, .unset, .unset, .unset, .unset, .unset, .unset, .unset] [(.ref b47)])) _
    refine XS.bipush X79.here hx rfl (hb hby at_87) ?_
    show Steps p.tables e below (T79.setTop (mkF m 89 #[.val (.long w0), .second, .val (.long w1), .second, .val (.int ff), .val (.int ll), .val (.ref b47), .unset, .unset, .unset, .unset, .unset, .unset, .unset, .unset, .unset, .unset, .unset] [(.int (8 : Int32)), (.ref b47)])) _
    refine XS.lloadN X79.here hx rfl (hb hby at_89) rfl ?_
    show Steps p.tables e below (T79.setTop (mkF m 90 #[.val (.long w0), .second, .val (.long w1), .second, .val (.int ff), .val (.int ll), .val (.ref b47), .unset, .unset, .unset, .unset, .unset, .unset, .unset, .unset, .unset, .unset, .unset] [(.long w1), (.int (8 : Int32)), (.ref b47)])) _
    refine XS.bipush X79.here hx rfl (hb hby at_90) ?_
    show Steps p.tables e below (T79.setTop (mkF m 92 #[.val (.long w0), .second, .val (.long w1), .second, .val (.int ff), .val (.int ll), .val (.ref b47), .unset, .unset, .unset, .unset, .unset, .unset, .unset, .unset, .unset, .unset, .unset] [(.int (24 : Int32)), (.long w1), (.int (8 : Int32)), (.ref b47)])) _
    refine XS.lushr X79.here hx rfl (hb hby at_92) rfl ?_
    show Steps p.tables e below (T79.setTop (mkF m 93 #[.val (.long w0), .second, .val (.long w1), .second, .val (.int ff), .val (.int ll), .val (.ref b47), .unset, .unset, .unset, .unset, .unset, .unset, .unset, .unset, .unset, .unset, .unset] [(.long ((w1.toUInt64 >>> ((24 : Int32) &&& 0x3f).toInt64.toUInt64).toInt64)), (.int (8 : Int32)), (.ref b47)])) _
    refine XS.l2i X79.here hx rfl (hb hby at_93) rfl ?_
    show Steps p.tables e below (T79.setTop (mkF m 94 #[.val (.long w0), .second, .val (.long w1), .second, .val (.int ff), .val (.int ll), .val (.ref b47), .unset, .unset, .unset, .unset, .unset, .unset, .unset, .unset, .unset, .unset, .unset] [(.int ((((w1.toUInt64 >>> ((24 : Int32) &&& 0x3f).toInt64.toUInt64).toInt64)).toInt32)), (.int (8 : Int32)), (.ref b47)])) _
    refine XS.i2b X79.here hx rfl (hb hby at_94) rfl ?_
    show Steps p.tables e below (T79.setTop (mkF m 95 #[.val (.long w0), .second, .val (.long w1), .second, .val (.int ff), .val (.int ll), .val (.ref b47), .unset, .unset, .unset, .unset, .unset, .unset, .unset, .unset, .unset, .unset, .unset] [(.int ((((((w1.toUInt64 >>> ((24 : Int32) &&& 0x3f).toInt64.toUInt64).toInt64)).toInt32)).toInt8.toInt32)), (.int (8 : Int32)), (.ref b47)])) _
    refine st83 _ ?_
    show Steps p.tables e below (T83.setTop (mkF m 96 #[.val (.long w0), .second, .val (.long w1), .second, .val (.int ff), .val (.int ll), .val (.ref b47), .unset, .unset, .unset, .unset, .unset, .unset, .unset, .unset, .unset, .unset, .unset] [])) _
    refine XS.aload X83.here hx rfl (hb hby at_96) rfl rfl ?_
    show Steps p.tables e below (T83.setTop (mkF m 98 #[.val (.long w0), .second, .val (.long w1), .second, .val (.int ff), .val (.int ll), .val (.ref b47), .unset, .unset, .unset, .unset, .unset, .unset, .unset, .unset, .unset, .unset, .unset] [(.ref b47)])) _
    refine XS.bipush X83.here hx rfl (hb hby at_98) ?_
    show Steps p.tables e below (T83.setTop (mkF m 100 #[.val (.long w0), .second, .val (.long w1), .second, .val (.int ff), .val (.int ll), .val (.ref b47), .unset, .unset, .unset, .unset, .unset, .unset, .unset, .unset, .unset, .unset, .unset] [(.int (9 : Int32)), (.ref b47)])) _
    refine XS.lloadN X83.here hx rfl (hb hby at_100) rfl ?_
    show Steps p.tables e below (T83.setTop (mkF m 101 #[.val (.long w0), .second, .val (.long w1), .second, .val (.int ff), .val (.int ll), .val (.ref b47), .unset, .unset, .unset, .unset, .unset, .unset, .unset, .unset, .unset, .unset, .unset] [(.long w1), (.int (9 : Int32)), (.ref b47)])) _
    refine XS.bipush X83.here hx rfl (hb hby at_101) ?_
    show Steps p.tables e below (T83.setTop (mkF m 103 #[.val (.long w0), .second, .val (.long w1), .second, .val (.int ff), .val (.int ll), .val (.ref b47), .unset, .unset, .unset, .unset, .unset, .unset, .unset, .unset, .unset, .unset, .unset] [(.int (16 : Int32)), (.long w1), (.int (9 : Int32)), (.ref b47)])) _
    refine XS.lushr X83.here hx rfl (hb hby at_103) rfl ?_
    show Steps p.tables e below (T83.setTop (mkF m 104 #[.val (.long w0), .second, .val (.long w1), .second, .val (.int ff), .val (.int ll), .val (.ref b47), .unset, .unset, .unset, .unset, .unset, .unset, .unset, .unset, .unset, .unset, .unset] [(.long ((w1.toUInt64 >>> ((16 : Int32) &&& 0x3f).toInt64.toUInt64).toInt64)), (.int (9 : Int32)), (.ref b47)])) _
    refine XS.l2i X83.here hx rfl (hb hby at_104) rfl ?_
    show Steps p.tables e below (T83.setTop (mkF m 105 #[.val (.long w0), .second, .val (.long w1), .second, .val (.int ff), .val (.int ll), .val (.ref b47), .unset, .unset, .unset, .unset, .unset, .unset, .unset, .unset, .unset, .unset, .unset] [(.int ((((w1.toUInt64 >>> ((16 : Int32) &&& 0x3f).toInt64.toUInt64).toInt64)).toInt32)), (.int (9 : Int32)), (.ref b47)])) _
    refine XS.i2b X83.here hx rfl (hb hby at_105) rfl ?_
    show Steps p.tables e below (T83.setTop (mkF m 106 #[.val (.long w0), .second, .val (.long w1), .second, .val (.int ff), .val (.int ll), .val (.ref b47), .unset, .unset, .unset, .unset, .unset, .unset, .unset, .unset, .unset, .unset, .unset] [(.int ((((((w1.toUInt64 >>> ((16 : Int32) &&& 0x3f).toInt64.toUInt64).toInt64)).toInt32)).toInt8.toInt32)), (.int (9 : Int32)), (.ref b47)])) _
    refine st87 _ ?_
    show Steps p.tables e below (T87.setTop (mkF m 107 #[.val (.long w0), .second, .val (.long w1), .second, .val (.int ff), .val (.int ll), .val (.ref b47), .unset, .unset, .unset, .unset, .unset, .unset, .unset, .unset, .unset, .unset, .unset] [])) _
    refine XS.aload X87.here hx rfl (hb hby at_107) rfl rfl ?_
    show Steps p.tables e below (T87.setTop (mkF m 109 #[.val (.long w0), .second, .val (.long w1), .second, .val (.int ff), .val (.int ll), .val (.ref b47), .unset, .unset, .unset, .unset, .unset, .unset, .unset, .unset, .unset, .unset, .unset] [(.ref b47)])) _
    refine XS.bipush X87.here hx rfl (hb hby at_109) ?_
    show Steps p.tables e below (T87.setTop (mkF m 111 #[.val (.long w0), .second, .val (.long w1), .second, .val (.int ff), .val (.int ll), .val (.ref b47), .unset, .unset, .unset, .unset, .unset, .unset, .unset, .unset, .unset, .unset, .unset] [(.int (10 : Int32)), (.ref b47)])) _
    refine XS.lloadN X87.here hx rfl (hb hby at_111) rfl ?_
    show Steps p.tables e below (T87.setTop (mkF m 112 #[.val (.long w0), .second, .val (.long w1), .second, .val (.int ff), .val (.int ll), .val (.ref b47), .unset, .unset, .unset, .unset, .unset, .unset, .unset, .unset, .unset, .unset, .unset] [(.long w1), (.int (10 : Int32)), (.ref b47)])) _
    refine XS.bipush X87.here hx rfl (hb hby at_112) ?_
    show Steps p.tables e below (T87.setTop (mkF m 114 #[.val (.long w0), .second, .val (.long w1), .second, .val (.int ff), .val (.int ll), .val (.ref b47), .unset, .unset, .unset, .unset, .unset, .unset, .unset, .unset, .unset, .unset, .unset] [(.int (8 : Int32)), (.long w1), (.int (10 : Int32)), (.ref b47)])) _
    refine XS.lushr X87.here hx rfl (hb hby at_114) rfl ?_
    show Steps p.tables e below (T87.setTop (mkF m 115 #[.val (.long w0), .second, .val (.long w1), .second, .val (.int ff), .val (.int ll), .val (.ref b47), .unset, .unset, .unset, .unset, .unset, .unset, .unset, .unset, .unset, .unset, .unset] [(.long ((w1.toUInt64 >>> ((8 : Int32) &&& 0x3f).toInt64.toUInt64).toInt64)), (.int (10 : Int32)), (.ref b47)])) _
    refine XS.l2i X87.here hx rfl (hb hby at_115) rfl ?_
    show Steps p.tables e below (T87.setTop (mkF m 116 #[.val (.long w0), .second, .val (.long w1), .second, .val (.int ff), .val (.int ll), .val (.ref b47), .unset, .unset, .unset, .unset, .unset, .unset, .unset, .unset, .unset, .unset, .unset] [(.int ((((w1.toUInt64 >>> ((8 : Int32) &&& 0x3f).toInt64.toUInt64).toInt64)).toInt32)), (.int (10 : Int32)), (.ref b47)])) _
    refine XS.i2b X87.here hx rfl (hb hby at_116) rfl ?_
    show Steps p.tables e below (T87.setTop (mkF m 117 #[.val (.long w0), .second, .val (.long w1), .second, .val (.int ff), .val (.int ll), .val (.ref b47), .unset, .unset, .unset, .unset, .unset, .unset, .unset, .unset, .unset, .unset, .unset] [(.int ((((((w1.toUInt64 >>> ((8 : Int32) &&& 0x3f).toInt64.toUInt64).toInt64)).toInt32)).toInt8.toInt32)), (.int (10 : Int32)), (.ref b47)])) _
    refine st91 _ ?_
    show Steps p.tables e below (T91.setTop (mkF m 118 #[.val (.long w0), .second, .val (.long w1), .second, .val (.int ff), .val (.int ll), .val (.ref b47), .unset, .unset, .unset, .unset, .unset, .unset, .unset, .unset, .unset, .unset, .unset] [])) _
    refine XS.aload X91.here hx rfl (hb hby at_118) rfl rfl ?_
    show Steps p.tables e below (T91.setTop (mkF m 120 #[.val (.long w0), .second, .val (.long w1), .second, .val (.int ff), .val (.int ll), .val (.ref b47), .unset, .unset, .unset, .unset, .unset, .unset, .unset, .unset, .unset, .unset, .unset] [(.ref b47)])) _
    refine XS.bipush X91.here hx rfl (hb hby at_120) ?_
    show Steps p.tables e below (T91.setTop (mkF m 122 #[.val (.long w0), .second, .val (.long w1), .second, .val (.int ff), .val (.int ll), .val (.ref b47), .unset, .unset, .unset, .unset, .unset, .unset, .unset, .unset, .unset, .unset, .unset] [(.int (11 : Int32)), (.ref b47)])) _
    refine XS.lloadN X91.here hx rfl (hb hby at_122) rfl ?_
    show Steps p.tables e below (T91.setTop (mkF m 123 #[.val (.long w0), .second, .val (.long w1), .second, .val (.int ff), .val (.int ll), .val (.ref b47), .unset, .unset, .unset, .unset, .unset, .unset, .unset, .unset, .unset, .unset, .unset] [(.long w1), (.int (11 : Int32)), (.ref b47)])) _
    refine XS.l2i X91.here hx rfl (hb hby at_123) rfl ?_
    show Steps p.tables e below (T91.setTop (mkF m 124 #[.val (.long w0), .second, .val (.long w1), .second, .val (.int ff), .val (.int ll), .val (.ref b47), .unset, .unset, .unset, .unset, .unset, .unset, .unset, .unset, .unset, .unset, .unset] [(.int ((w1).toInt32)), (.int (11 : Int32)), (.ref b47)])) _
    refine XS.i2b X91.here hx rfl (hb hby at_124) rfl ?_
    show Steps p.tables e below (T91.setTop (mkF m 125 #[.val (.long w0), .second, .val (.long w1), .second, .val (.int ff), .val (.int ll), .val (.ref b47), .unset, .unset, .unset, .unset, .unset, .unset, .unset, .unset, .unset, .unset, .unset] [(.int ((((w1).toInt32)).toInt8.toInt32)), (.int (11 : Int32)), (.ref b47)])) _
    refine st95 _ ?_
    show Steps p.tables e below (T95.setTop (mkF m 126 #[.val (.long w0), .second, .val (.long w1), .second, .val (.int ff), .val (.int ll), .val (.ref b47), .unset, .unset, .unset, .unset, .unset, .unset, .unset, .unset, .unset, .unset, .unset] [])) _
    refine XS.iload X95.here hx rfl (hb hby at_126) rfl ?_
    show Steps p.tables e below (T95.setTop (mkF m 128 #[.val (.long w0), .second, .val (.long w1), .second, .val (.int ff), .val (.int ll), .val (.ref b47), .unset, .unset, .unset, .unset, .unset, .unset, .unset, .unset, .unset, .unset, .unset] [(.int ff)])) _
    refine X95.ldcInt hx hown (mvT hZ (hw _ (List.mem_of_getElem? (i := 1) rfl))) (g := (mkF m 128 #[.val (.long w0), .second, .val (.long w1), .second, .val (.int ff), .val (.int ll), .val (.ref b47), .unset, .unset, .unset, .unset, .unset, .unset, .unset, .unset, .unset, .unset, .unset] [(.int ff)])) rfl (hb hby at_128) _ ?_
    show Steps p.tables e below (T95.setTop (mkF m 130 #[.val (.long w0), .second, .val (.long w1), .second, .val (.int ff), .val (.int ll), .val (.ref b47), .unset, .unset, .unset, .unset, .unset, .unset, .unset, .unset, .unset, .unset, .unset] [(.int (2147483647 : Int32)), (.int ff)])) _
    refine XS.iand X95.here hx rfl (hb hby at_130) rfl ?_
    show Steps p.tables e below (T95.setTop (mkF m 131 #[.val (.long w0), .second, .val (.long w1), .second, .val (.int ff), .val (.int ll), .val (.ref b47), .unset, .unset, .unset, .unset, .unset, .unset, .unset, .unset, .unset, .unset, .unset] [(.int (ff &&& (2147483647 : Int32)))])) _
    refine XS.iconst X95.here hx rfl (hb hby at_131) ?_
    show Steps p.tables e below (T95.setTop (mkF m 132 #[.val (.long w0), .second, .val (.long w1), .second, .val (.int ff), .val (.int ll), .val (.ref b47), .unset, .unset, .unset, .unset, .unset, .unset, .unset, .unset, .unset, .unset, .unset] [(.int (5 : Int32)), (.int (ff &&& (2147483647 : Int32)))])) _
    refine iremM X95 hx rfl (hb hby at_132) rfl (by decide) ?_
    show Steps p.tables e below (T95.setTop (mkF m 133 #[.val (.long w0), .second, .val (.long w1), .second, .val (.int ff), .val (.int ll), .val (.ref b47), .unset, .unset, .unset, .unset, .unset, .unset, .unset, .unset, .unset, .unset, .unset] [(.int ((ff &&& (2147483647 : Int32)) % (5 : Int32)))])) _
    refine XS.istore X95.here hx rfl (hb hby at_133) rfl (l' := #[.val (.long w0), .second, .val (.long w1), .second, .val (.int ff), .val (.int ll), .val (.ref b47), .val (.int ((ff &&& (2147483647 : Int32)) % (5 : Int32))), .unset, .unset, .unset, .unset, .unset, .unset, .unset, .unset, .unset, .unset]) rfl ?_
    exact hk)
  obtain ⟨fr, hfr, k100⟩ : ∃ (fr : Int32), fr = ((ff &&& (2147483647 : Int32)) % (5 : Int32)) ∧ ∀ t, Steps p.tables e below (T95.setTop (mkF m 135 #[.val (.long w0), .second, .val (.long w1), .second, .val (.int ff), .val (.int ll), .val (.ref b47), .val (.int fr), .unset, .unset, .unset, .unset, .unset, .unset, .unset, .unset, .unset, .unset] [])) t → Steps p.tables e below (s₁.setTop (entryFrame m #[(.long w0), (.long w1), (.int ff), (.int ll)] maxLocals)) t := ⟨((ff &&& (2147483647 : Int32)) % (5 : Int32)), rfl, k99⟩
  obtain ⟨hf0, hf1⟩ := own_from ff fr hfr
  obtain ⟨hnz, hl⟩ := own_len13 ll fr hf0 hf1
  have k101 : ∀ t, Steps p.tables e below (T95.setTop (mkF m 148 #[.val (.long w0), .second, .val (.long w1), .second, .val (.int ff), .val (.int ll), .val (.ref b47), .val (.int fr), .val (.int ((ll &&& (2147483647 : Int32)) % ((13 : Int32) - fr))), .unset, .unset, .unset, .unset, .unset, .unset, .unset, .unset, .unset] [])) t → Steps p.tables e below (s₁.setTop (entryFrame m #[(.long w0), (.long w1), (.int ff), (.int ll)] maxLocals)) t := fun t hk => k100 t (by
    show Steps p.tables e below (T95.setTop (mkF m 135 #[.val (.long w0), .second, .val (.long w1), .second, .val (.int ff), .val (.int ll), .val (.ref b47), .val (.int fr), .unset, .unset, .unset, .unset, .unset, .unset, .unset, .unset, .unset, .unset] [])) _
    refine XS.iload X95.here hx rfl (hb hby at_135) rfl ?_
    show Steps p.tables e below (T95.setTop (mkF m 137 #[.val (.long w0), .second, .val (.long w1), .second, .val (.int ff), .val (.int ll), .val (.ref b47), .val (.int fr), .unset, .unset, .unset, .unset, .unset, .unset, .unset, .unset, .unset, .unset] [(.int ll)])) _
    refine X95.ldcInt hx hown (mvT hZ (hw _ (List.mem_of_getElem? (i := 1) rfl))) (g := (mkF m 137 #[.val (.long w0), .second, .val (.long w1), .second, .val (.int ff), .val (.int ll), .val (.ref b47), .val (.int fr), .unset, .unset, .unset, .unset, .unset, .unset, .unset, .unset, .unset, .unset] [(.int ll)])) rfl (hb hby at_137) _ ?_
    show Steps p.tables e below (T95.setTop (mkF m 139 #[.val (.long w0), .second, .val (.long w1), .second, .val (.int ff), .val (.int ll), .val (.ref b47), .val (.int fr), .unset, .unset, .unset, .unset, .unset, .unset, .unset, .unset, .unset, .unset] [(.int (2147483647 : Int32)), (.int ll)])) _
    refine XS.iand X95.here hx rfl (hb hby at_139) rfl ?_
    show Steps p.tables e below (T95.setTop (mkF m 140 #[.val (.long w0), .second, .val (.long w1), .second, .val (.int ff), .val (.int ll), .val (.ref b47), .val (.int fr), .unset, .unset, .unset, .unset, .unset, .unset, .unset, .unset, .unset, .unset] [(.int (ll &&& (2147483647 : Int32)))])) _
    refine XS.bipush X95.here hx rfl (hb hby at_140) ?_
    show Steps p.tables e below (T95.setTop (mkF m 142 #[.val (.long w0), .second, .val (.long w1), .second, .val (.int ff), .val (.int ll), .val (.ref b47), .val (.int fr), .unset, .unset, .unset, .unset, .unset, .unset, .unset, .unset, .unset, .unset] [(.int (13 : Int32)), (.int (ll &&& (2147483647 : Int32)))])) _
    refine XS.iload X95.here hx rfl (hb hby at_142) rfl ?_
    show Steps p.tables e below (T95.setTop (mkF m 144 #[.val (.long w0), .second, .val (.long w1), .second, .val (.int ff), .val (.int ll), .val (.ref b47), .val (.int fr), .unset, .unset, .unset, .unset, .unset, .unset, .unset, .unset, .unset, .unset] [(.int fr), (.int (13 : Int32)), (.int (ll &&& (2147483647 : Int32)))])) _
    refine XS.isub X95.here hx rfl (hb hby at_144) rfl ?_
    show Steps p.tables e below (T95.setTop (mkF m 145 #[.val (.long w0), .second, .val (.long w1), .second, .val (.int ff), .val (.int ll), .val (.ref b47), .val (.int fr), .unset, .unset, .unset, .unset, .unset, .unset, .unset, .unset, .unset, .unset] [(.int ((13 : Int32) - fr)), (.int (ll &&& (2147483647 : Int32)))])) _
    refine iremM X95 hx rfl (hb hby at_145) rfl hnz ?_
    show Steps p.tables e below (T95.setTop (mkF m 146 #[.val (.long w0), .second, .val (.long w1), .second, .val (.int ff), .val (.int ll), .val (.ref b47), .val (.int fr), .unset, .unset, .unset, .unset, .unset, .unset, .unset, .unset, .unset, .unset] [(.int ((ll &&& (2147483647 : Int32)) % ((13 : Int32) - fr)))])) _
    refine XS.istore X95.here hx rfl (hb hby at_146) rfl (l' := #[.val (.long w0), .second, .val (.long w1), .second, .val (.int ff), .val (.int ll), .val (.ref b47), .val (.int fr), .val (.int ((ll &&& (2147483647 : Int32)) % ((13 : Int32) - fr))), .unset, .unset, .unset, .unset, .unset, .unset, .unset, .unset, .unset]) rfl ?_
    exact hk)
  obtain ⟨le, hle, k102⟩ : ∃ (le : Int32), le = ((ll &&& (2147483647 : Int32)) % ((13 : Int32) - fr)) ∧ ∀ t, Steps p.tables e below (T95.setTop (mkF m 148 #[.val (.long w0), .second, .val (.long w1), .second, .val (.int ff), .val (.int ll), .val (.ref b47), .val (.int fr), .val (.int le), .unset, .unset, .unset, .unset, .unset, .unset, .unset, .unset, .unset] [])) t → Steps p.tables e below (s₁.setTop (entryFrame m #[(.long w0), (.long w1), (.int ff), (.int ll)] maxLocals)) t := ⟨((ll &&& (2147483647 : Int32)) % ((13 : Int32) - fr)), rfl, k101⟩
  rw [← hle] at hl
  obtain ⟨_, _, ⟨T103, L103, k103, n103⟩, -, X103, ⟨Lc103, hQ103, l103, y103, z103⟩, st103⟩ := Jvm.LawKit.callS X95 hx (y := (⟨"com/example/lexgap/lexgap/index/FrontCoding", "head", "([BII)J"⟩ : MethodName)) hown (mvT hZ (hw _ (List.mem_of_getElem? (i := 2) rfl))) (mvT hZ (hw _ (List.mem_of_getElem? (i := 3) rfl))) (mvT hZ (hw _ (List.mem_of_getElem? (i := 4) rfl))) (mvT hZ (hw _ (List.mem_of_getElem? (i := 5) rfl))) (by decide) (backOf (W := 0) (rm1 l Z a0 hw [] b47 fr le _ h95 n0 Z97 A96 hf0 hl.2) hZ (hw _ (List.mem_of_getElem? (i := 5) rfl)) (hw _ (List.mem_of_getElem? (i := 4) rfl)) (by decide) (by decide)) (g := (mkF m 154 #[.val (.long w0), .second, .val (.long w1), .second, .val (.int ff), .val (.int ll), .val (.ref b47), .val (.int fr), .val (.int le), .unset, .unset, .unset, .unset, .unset, .unset, .unset, .unset, .unset] [(.int le), (.int fr), (.ref b47)])) rfl (by rw [hml]; rfl) (argsL := [(.ref b47), (.int fr), (.int le)]) (rest := []) (lenOf pd_1 rfl) rfl (by show 2 * 0 + _ ≤ _; exact Nat.le_of_eq rfl) (hb hby at_154) (fun _ _ => ⟨rfl, e95, (by decide : 1 + 0 ≤ _), (by decide : 12 + 0 ≤ _)⟩)
  dsimp only [Pt.U, Pt.locs, Pt.cells, Pt.slots] at X103 l103 y103 z103 st103 hQ103
  subst l103 y103 z103
  obtain ⟨rfl, N103q, e103⟩ := hQ103
  have N103 := Fr.app N98 N103q
  have k104 : ∀ t, Steps p.tables e below (T103.setTop (mkF m 159 #[.val (.long w0), .second, .val (.long w1), .second, .val (.int ff), .val (.int ll), .val (.ref b47), .val (.int fr), .val (.int le), .val (.long (own_hd (own_upd (own_upd (own_upd (own_upd (own_upd (own_upd (own_upd (own_upd (own_upd (own_upd (own_upd (own_upd (fun _ => (0 : Int32)) 0 (nar .byte ((((((w0.toUInt64 >>> ((56 : Int32) &&& 0x3f).toInt64.toUInt64).toInt64)).toInt32)).toInt8.toInt32))) 1 (nar .byte ((((((w0.toUInt64 >>> ((48 : Int32) &&& 0x3f).toInt64.toUInt64).toInt64)).toInt32)).toInt8.toInt32))) 2 (nar .byte ((((((w0.toUInt64 >>> ((40 : Int32) &&& 0x3f).toInt64.toUInt64).toInt64)).toInt32)).toInt8.toInt32))) 3 (nar .byte ((((((w0.toUInt64 >>> ((32 : Int32) &&& 0x3f).toInt64.toUInt64).toInt64)).toInt32)).toInt8.toInt32))) 4 (nar .byte ((((((w0.toUInt64 >>> ((24 : Int32) &&& 0x3f).toInt64.toUInt64).toInt64)).toInt32)).toInt8.toInt32))) 5 (nar .byte ((((((w0.toUInt64 >>> ((16 : Int32) &&& 0x3f).toInt64.toUInt64).toInt64)).toInt32)).toInt8.toInt32))) 6 (nar .byte ((((((w0.toUInt64 >>> ((8 : Int32) &&& 0x3f).toInt64.toUInt64).toInt64)).toInt32)).toInt8.toInt32))) 7 (nar .byte ((((w0).toInt32)).toInt8.toInt32))) 8 (nar .byte ((((((w1.toUInt64 >>> ((24 : Int32) &&& 0x3f).toInt64.toUInt64).toInt64)).toInt32)).toInt8.toInt32))) 9 (nar .byte ((((((w1.toUInt64 >>> ((16 : Int32) &&& 0x3f).toInt64.toUInt64).toInt64)).toInt32)).toInt8.toInt32))) 10 (nar .byte ((((((w1.toUInt64 >>> ((8 : Int32) &&& 0x3f).toInt64.toUInt64).toInt64)).toInt32)).toInt8.toInt32))) 11 (nar .byte ((((w1).toInt32)).toInt8.toInt32))) fr le 8)), .second, .unset, .unset, .unset, .unset, .unset, .unset, .unset] [])) t → Steps p.tables e below (s₁.setTop (entryFrame m #[(.long w0), (.long w1), (.int ff), (.int ll)] maxLocals)) t := fun t hk => k102 t (by
    show Steps p.tables e below (T95.setTop (mkF m 148 #[.val (.long w0), .second, .val (.long w1), .second, .val (.int ff), .val (.int ll), .val (.ref b47), .val (.int fr), .val (.int le), .unset, .unset, .unset, .unset, .unset, .unset, .unset, .unset, .unset] [])) _
    refine XS.aload X95.here hx rfl (hb hby at_148) rfl rfl ?_
    show Steps p.tables e below (T95.setTop (mkF m 150 #[.val (.long w0), .second, .val (.long w1), .second, .val (.int ff), .val (.int ll), .val (.ref b47), .val (.int fr), .val (.int le), .unset, .unset, .unset, .unset, .unset, .unset, .unset, .unset, .unset] [(.ref b47)])) _
    refine XS.iload X95.here hx rfl (hb hby at_150) rfl ?_
    show Steps p.tables e below (T95.setTop (mkF m 152 #[.val (.long w0), .second, .val (.long w1), .second, .val (.int ff), .val (.int ll), .val (.ref b47), .val (.int fr), .val (.int le), .unset, .unset, .unset, .unset, .unset, .unset, .unset, .unset, .unset] [(.int fr), (.ref b47)])) _
    refine XS.iload X95.here hx rfl (hb hby at_152) rfl ?_
    show Steps p.tables e below (T95.setTop (mkF m 154 #[.val (.long w0), .second, .val (.long w1), .second, .val (.int ff), .val (.int ll), .val (.ref b47), .val (.int fr), .val (.int le), .unset, .unset, .unset, .unset, .unset, .unset, .unset, .unset, .unset] [(.int le), (.int fr), (.ref b47)])) _
    refine st103 _ ?_
    show Steps p.tables e below (T103.setTop (mkF m 157 #[.val (.long w0), .second, .val (.long w1), .second, .val (.int ff), .val (.int ll), .val (.ref b47), .val (.int fr), .val (.int le), .unset, .unset, .unset, .unset, .unset, .unset, .unset, .unset, .unset] [(.long (own_hd (own_upd (own_upd (own_upd (own_upd (own_upd (own_upd (own_upd (own_upd (own_upd (own_upd (own_upd (own_upd (fun _ => (0 : Int32)) 0 (nar .byte ((((((w0.toUInt64 >>> ((56 : Int32) &&& 0x3f).toInt64.toUInt64).toInt64)).toInt32)).toInt8.toInt32))) 1 (nar .byte ((((((w0.toUInt64 >>> ((48 : Int32) &&& 0x3f).toInt64.toUInt64).toInt64)).toInt32)).toInt8.toInt32))) 2 (nar .byte ((((((w0.toUInt64 >>> ((40 : Int32) &&& 0x3f).toInt64.toUInt64).toInt64)).toInt32)).toInt8.toInt32))) 3 (nar .byte ((((((w0.toUInt64 >>> ((32 : Int32) &&& 0x3f).toInt64.toUInt64).toInt64)).toInt32)).toInt8.toInt32))) 4 (nar .byte ((((((w0.toUInt64 >>> ((24 : Int32) &&& 0x3f).toInt64.toUInt64).toInt64)).toInt32)).toInt8.toInt32))) 5 (nar .byte ((((((w0.toUInt64 >>> ((16 : Int32) &&& 0x3f).toInt64.toUInt64).toInt64)).toInt32)).toInt8.toInt32))) 6 (nar .byte ((((((w0.toUInt64 >>> ((8 : Int32) &&& 0x3f).toInt64.toUInt64).toInt64)).toInt32)).toInt8.toInt32))) 7 (nar .byte ((((w0).toInt32)).toInt8.toInt32))) 8 (nar .byte ((((((w1.toUInt64 >>> ((24 : Int32) &&& 0x3f).toInt64.toUInt64).toInt64)).toInt32)).toInt8.toInt32))) 9 (nar .byte ((((((w1.toUInt64 >>> ((16 : Int32) &&& 0x3f).toInt64.toUInt64).toInt64)).toInt32)).toInt8.toInt32))) 10 (nar .byte ((((((w1.toUInt64 >>> ((8 : Int32) &&& 0x3f).toInt64.toUInt64).toInt64)).toInt32)).toInt8.toInt32))) 11 (nar .byte ((((w1).toInt32)).toInt8.toInt32))) fr le 8))])) _
    refine XS.lstore X103.here hx rfl (hb hby at_157) rfl (l' := #[.val (.long w0), .second, .val (.long w1), .second, .val (.int ff), .val (.int ll), .val (.ref b47), .val (.int fr), .val (.int le), .val (.long (own_hd (own_upd (own_upd (own_upd (own_upd (own_upd (own_upd (own_upd (own_upd (own_upd (own_upd (own_upd (own_upd (fun _ => (0 : Int32)) 0 (nar .byte ((((((w0.toUInt64 >>> ((56 : Int32) &&& 0x3f).toInt64.toUInt64).toInt64)).toInt32)).toInt8.toInt32))) 1 (nar .byte ((((((w0.toUInt64 >>> ((48 : Int32) &&& 0x3f).toInt64.toUInt64).toInt64)).toInt32)).toInt8.toInt32))) 2 (nar .byte ((((((w0.toUInt64 >>> ((40 : Int32) &&& 0x3f).toInt64.toUInt64).toInt64)).toInt32)).toInt8.toInt32))) 3 (nar .byte ((((((w0.toUInt64 >>> ((32 : Int32) &&& 0x3f).toInt64.toUInt64).toInt64)).toInt32)).toInt8.toInt32))) 4 (nar .byte ((((((w0.toUInt64 >>> ((24 : Int32) &&& 0x3f).toInt64.toUInt64).toInt64)).toInt32)).toInt8.toInt32))) 5 (nar .byte ((((((w0.toUInt64 >>> ((16 : Int32) &&& 0x3f).toInt64.toUInt64).toInt64)).toInt32)).toInt8.toInt32))) 6 (nar .byte ((((((w0.toUInt64 >>> ((8 : Int32) &&& 0x3f).toInt64.toUInt64).toInt64)).toInt32)).toInt8.toInt32))) 7 (nar .byte ((((w0).toInt32)).toInt8.toInt32))) 8 (nar .byte ((((((w1.toUInt64 >>> ((24 : Int32) &&& 0x3f).toInt64.toUInt64).toInt64)).toInt32)).toInt8.toInt32))) 9 (nar .byte ((((((w1.toUInt64 >>> ((16 : Int32) &&& 0x3f).toInt64.toUInt64).toInt64)).toInt32)).toInt8.toInt32))) 10 (nar .byte ((((((w1.toUInt64 >>> ((8 : Int32) &&& 0x3f).toInt64.toUInt64).toInt64)).toInt32)).toInt8.toInt32))) 11 (nar .byte ((((w1).toInt32)).toInt8.toInt32))) fr le 8)), .second, .unset, .unset, .unset, .unset, .unset, .unset, .unset]) rfl ?_
    exact hk)
  obtain ⟨hh, hhh, k105⟩ : ∃ (hh : Int64), hh = (own_hd (own_upd (own_upd (own_upd (own_upd (own_upd (own_upd (own_upd (own_upd (own_upd (own_upd (own_upd (own_upd (fun _ => (0 : Int32)) 0 (nar .byte ((((((w0.toUInt64 >>> ((56 : Int32) &&& 0x3f).toInt64.toUInt64).toInt64)).toInt32)).toInt8.toInt32))) 1 (nar .byte ((((((w0.toUInt64 >>> ((48 : Int32) &&& 0x3f).toInt64.toUInt64).toInt64)).toInt32)).toInt8.toInt32))) 2 (nar .byte ((((((w0.toUInt64 >>> ((40 : Int32) &&& 0x3f).toInt64.toUInt64).toInt64)).toInt32)).toInt8.toInt32))) 3 (nar .byte ((((((w0.toUInt64 >>> ((32 : Int32) &&& 0x3f).toInt64.toUInt64).toInt64)).toInt32)).toInt8.toInt32))) 4 (nar .byte ((((((w0.toUInt64 >>> ((24 : Int32) &&& 0x3f).toInt64.toUInt64).toInt64)).toInt32)).toInt8.toInt32))) 5 (nar .byte ((((((w0.toUInt64 >>> ((16 : Int32) &&& 0x3f).toInt64.toUInt64).toInt64)).toInt32)).toInt8.toInt32))) 6 (nar .byte ((((((w0.toUInt64 >>> ((8 : Int32) &&& 0x3f).toInt64.toUInt64).toInt64)).toInt32)).toInt8.toInt32))) 7 (nar .byte ((((w0).toInt32)).toInt8.toInt32))) 8 (nar .byte ((((((w1.toUInt64 >>> ((24 : Int32) &&& 0x3f).toInt64.toUInt64).toInt64)).toInt32)).toInt8.toInt32))) 9 (nar .byte ((((((w1.toUInt64 >>> ((16 : Int32) &&& 0x3f).toInt64.toUInt64).toInt64)).toInt32)).toInt8.toInt32))) 10 (nar .byte ((((((w1.toUInt64 >>> ((8 : Int32) &&& 0x3f).toInt64.toUInt64).toInt64)).toInt32)).toInt8.toInt32))) 11 (nar .byte ((((w1).toInt32)).toInt8.toInt32))) fr le 8) ∧ ∀ t, Steps p.tables e below (T103.setTop (mkF m 159 #[.val (.long w0), .second, .val (.long w1), .second, .val (.int ff), .val (.int ll), .val (.ref b47), .val (.int fr), .val (.int le), .val (.long hh), .second, .unset, .unset, .unset, .unset, .unset, .unset, .unset] [])) t → Steps p.tables e below (s₁.setTop (entryFrame m #[(.long w0), (.long w1), (.int ff), (.int ll)] maxLocals)) t := ⟨(own_hd (own_upd (own_upd (own_upd (own_upd (own_upd (own_upd (own_upd (own_upd (own_upd (own_upd (own_upd (own_upd (fun _ => (0 : Int32)) 0 (nar .byte ((((((w0.toUInt64 >>> ((56 : Int32) &&& 0x3f).toInt64.toUInt64).toInt64)).toInt32)).toInt8.toInt32))) 1 (nar .byte ((((((w0.toUInt64 >>> ((48 : Int32) &&& 0x3f).toInt64.toUInt64).toInt64)).toInt32)).toInt8.toInt32))) 2 (nar .byte ((((((w0.toUInt64 >>> ((40 : Int32) &&& 0x3f).toInt64.toUInt64).toInt64)).toInt32)).toInt8.toInt32))) 3 (nar .byte ((((((w0.toUInt64 >>> ((32 : Int32) &&& 0x3f).toInt64.toUInt64).toInt64)).toInt32)).toInt8.toInt32))) 4 (nar .byte ((((((w0.toUInt64 >>> ((24 : Int32) &&& 0x3f).toInt64.toUInt64).toInt64)).toInt32)).toInt8.toInt32))) 5 (nar .byte ((((((w0.toUInt64 >>> ((16 : Int32) &&& 0x3f).toInt64.toUInt64).toInt64)).toInt32)).toInt8.toInt32))) 6 (nar .byte ((((((w0.toUInt64 >>> ((8 : Int32) &&& 0x3f).toInt64.toUInt64).toInt64)).toInt32)).toInt8.toInt32))) 7 (nar .byte ((((w0).toInt32)).toInt8.toInt32))) 8 (nar .byte ((((((w1.toUInt64 >>> ((24 : Int32) &&& 0x3f).toInt64.toUInt64).toInt64)).toInt32)).toInt8.toInt32))) 9 (nar .byte ((((((w1.toUInt64 >>> ((16 : Int32) &&& 0x3f).toInt64.toUInt64).toInt64)).toInt32)).toInt8.toInt32))) 10 (nar .byte ((((((w1.toUInt64 >>> ((8 : Int32) &&& 0x3f).toInt64.toUInt64).toInt64)).toInt32)).toInt8.toInt32))) 11 (nar .byte ((((w1).toInt32)).toInt8.toInt32))) fr le 8), rfl, k104⟩
  have k106 : ∀ t, Steps p.tables e below (T103.setTop (mkF m 166 #[.val (.long w0), .second, .val (.long w1), .second, .val (.int ff), .val (.int ll), .val (.ref b47), .val (.int fr), .val (.int le), .val (.long hh), .second, .val (.long (w1 &&& (4294967295 : Int64))), .second, .unset, .unset, .unset, .unset, .unset] [])) t → Steps p.tables e below (s₁.setTop (entryFrame m #[(.long w0), (.long w1), (.int ff), (.int ll)] maxLocals)) t := fun t hk => k105 t (by
    show Steps p.tables e below (T103.setTop (mkF m 159 #[.val (.long w0), .second, .val (.long w1), .second, .val (.int ff), .val (.int ll), .val (.ref b47), .val (.int fr), .val (.int le), .val (.long hh), .second, .unset, .unset, .unset, .unset, .unset, .unset, .unset] [])) _
    refine XS.lloadN X103.here hx rfl (hb hby at_159) rfl ?_
    show Steps p.tables e below (T103.setTop (mkF m 160 #[.val (.long w0), .second, .val (.long w1), .second, .val (.int ff), .val (.int ll), .val (.ref b47), .val (.int fr), .val (.int le), .val (.long hh), .second, .unset, .unset, .unset, .unset, .unset, .unset, .unset] [(.long w1)])) _
    refine X103.ldc2Long hx hown (mvT hZ (hw _ (List.mem_of_getElem? (i := 6) rfl))) (g := (mkF m 160 #[.val (.long w0), .second, .val (.long w1), .second, .val (.int ff), .val (.int ll), .val (.ref b47), .val (.int fr), .val (.int le), .val (.long hh), .second, .unset, .unset, .unset, .unset, .unset, .unset, .unset] [(.long w1)])) rfl (hb hby at_160) _ ?_
    show Steps p.tables e below (T103.setTop (mkF m 163 #[.val (.long w0), .second, .val (.long w1), .second, .val (.int ff), .val (.int ll), .val (.ref b47), .val (.int fr), .val (.int le), .val (.long hh), .second, .unset, .unset, .unset, .unset, .unset, .unset, .unset] [(.long (4294967295 : Int64)), (.long w1)])) _
    refine XS.land X103.here hx rfl (hb hby at_163) rfl ?_
    show Steps p.tables e below (T103.setTop (mkF m 164 #[.val (.long w0), .second, .val (.long w1), .second, .val (.int ff), .val (.int ll), .val (.ref b47), .val (.int fr), .val (.int le), .val (.long hh), .second, .unset, .unset, .unset, .unset, .unset, .unset, .unset] [(.long (w1 &&& (4294967295 : Int64)))])) _
    refine XS.lstore X103.here hx rfl (hb hby at_164) rfl (l' := #[.val (.long w0), .second, .val (.long w1), .second, .val (.int ff), .val (.int ll), .val (.ref b47), .val (.int fr), .val (.int le), .val (.long hh), .second, .val (.long (w1 &&& (4294967295 : Int64))), .second, .unset, .unset, .unset, .unset, .unset]) rfl ?_
    exact hk)
  obtain ⟨lo, hlo, k107⟩ : ∃ (lo : Int64), lo = (w1 &&& (4294967295 : Int64)) ∧ ∀ t, Steps p.tables e below (T103.setTop (mkF m 166 #[.val (.long w0), .second, .val (.long w1), .second, .val (.int ff), .val (.int ll), .val (.ref b47), .val (.int fr), .val (.int le), .val (.long hh), .second, .val (.long lo), .second, .unset, .unset, .unset, .unset, .unset] [])) t → Steps p.tables e below (s₁.setTop (entryFrame m #[(.long w0), (.long w1), (.int ff), (.int ll)] maxLocals)) t := ⟨(w1 &&& (4294967295 : Int64)), rfl, k106⟩
  have k108 : ∀ t, Steps p.tables e below (T103.setTop (mkF m 168 #[.val (.long w0), .second, .val (.long w1), .second, .val (.int ff), .val (.int ll), .val (.ref b47), .val (.int fr), .val (.int le), .val (.long hh), .second, .val (.long lo), .second, .unset, .unset, .unset, .unset, .unset] [(.int fr)])) t → Steps p.tables e below (s₁.setTop (entryFrame m #[(.long w0), (.long w1), (.int ff), (.int ll)] maxLocals)) t := fun t hk => k107 t (by
    show Steps p.tables e below (T103.setTop (mkF m 166 #[.val (.long w0), .second, .val (.long w1), .second, .val (.int ff), .val (.int ll), .val (.ref b47), .val (.int fr), .val (.int le), .val (.long hh), .second, .val (.long lo), .second, .unset, .unset, .unset, .unset, .unset] [])) _
    refine XS.iload X103.here hx rfl (hb hby at_166) rfl ?_
    exact hk)
  obtain ⟨wi, hwi, k109⟩ : ∃ (wi : Int64), (wi = (if fr = (0 : Int32) then w0 else ((w0 <<< (((8 : Int32) * fr) &&& 0x3f).toInt64) ||| (((lo <<< ((32 : Int32) &&& 0x3f).toInt64).toUInt64 >>> (((64 : Int32) - ((8 : Int32) * fr)) &&& 0x3f).toInt64.toUInt64).toInt64)))) ∧ ∀ t, Steps p.tables e below (T103.setTop (mkF m 197 #[.val (.long w0), .second, .val (.long w1), .second, .val (.int ff), .val (.int ll), .val (.ref b47), .val (.int fr), .val (.int le), .val (.long hh), .second, .val (.long lo), .second, .unset, .unset, .unset, .unset, .unset] [(.long wi)])) t → Steps p.tables e below (s₁.setTop (entryFrame m #[(.long w0), (.long w1), (.int ff), (.int ll)] maxLocals)) t := by
    by_cases hc168 : fr = (0 : Int32)
    ·
      refine ⟨w0, ((if_pos hc168).trans rfl).symm, fun t hk => k108 t ?_⟩
      show Steps p.tables e below (T103.setTop (mkF m 168 #[.val (.long w0), .second, .val (.long w1), .second, .val (.int ff), .val (.int ll), .val (.ref b47), .val (.int fr), .val (.int le), .val (.long hh), .second, .val (.long lo), .second, .unset, .unset, .unset, .unset, .unset] [(.int fr)])) _
      refine XS.ifNo X103.here hx rfl (hb hby at_168) rfl ((if0 _ _).trans (teq hc168).2) ?_
      show Steps p.tables e below (T103.setTop (mkF m 171 #[.val (.long w0), .second, .val (.long w1), .second, .val (.int ff), .val (.int ll), .val (.ref b47), .val (.int fr), .val (.int le), .val (.long hh), .second, .val (.long lo), .second, .unset, .unset, .unset, .unset, .unset] [])) _
      refine XS.lloadN X103.here hx rfl (hb hby at_171) rfl ?_
      show Steps p.tables e below (T103.setTop (mkF m 172 #[.val (.long w0), .second, .val (.long w1), .second, .val (.int ff), .val (.int ll), .val (.ref b47), .val (.int fr), .val (.int le), .val (.long hh), .second, .val (.long lo), .second, .unset, .unset, .unset, .unset, .unset] [(.long w0)])) _
      refine XS.goto X103.here hx rfl (pc0 := 172) (pc' := 197) rfl (hb hby at_172) (by decide) (by decide) ?_
      exact hk
    ·
      refine ⟨((w0 <<< (((8 : Int32) * fr) &&& 0x3f).toInt64) ||| (((lo <<< ((32 : Int32) &&& 0x3f).toInt64).toUInt64 >>> (((64 : Int32) - ((8 : Int32) * fr)) &&& 0x3f).toInt64.toUInt64).toInt64)), ((if_neg hc168).trans rfl).symm, fun t hk => k108 t ?_⟩
      show Steps p.tables e below (T103.setTop (mkF m 168 #[.val (.long w0), .second, .val (.long w1), .second, .val (.int ff), .val (.int ll), .val (.ref b47), .val (.int fr), .val (.int le), .val (.long hh), .second, .val (.long lo), .second, .unset, .unset, .unset, .unset, .unset] [(.int fr)])) _
      refine XS.ifYes X103.here hx rfl (pc0 := 168) (pc' := 175) rfl (hb hby at_168) rfl ((if0 _ _).trans (feq hc168).2) (by decide) (by decide) ?_
      show Steps p.tables e below (T103.setTop (mkF m 175 #[.val (.long w0), .second, .val (.long w1), .second, .val (.int ff), .val (.int ll), .val (.ref b47), .val (.int fr), .val (.int le), .val (.long hh), .second, .val (.long lo), .second, .unset, .unset, .unset, .unset, .unset] [])) _
      refine XS.lloadN X103.here hx rfl (hb hby at_175) rfl ?_
      show Steps p.tables e below (T103.setTop (mkF m 176 #[.val (.long w0), .second, .val (.long w1), .second, .val (.int ff), .val (.int ll), .val (.ref b47), .val (.int fr), .val (.int le), .val (.long hh), .second, .val (.long lo), .second, .unset, .unset, .unset, .unset, .unset] [(.long w0)])) _
      refine XS.bipush X103.here hx rfl (hb hby at_176) ?_
      show Steps p.tables e below (T103.setTop (mkF m 178 #[.val (.long w0), .second, .val (.long w1), .second, .val (.int ff), .val (.int ll), .val (.ref b47), .val (.int fr), .val (.int le), .val (.long hh), .second, .val (.long lo), .second, .unset, .unset, .unset, .unset, .unset] [(.int (8 : Int32)), (.long w0)])) _
      refine XS.iload X103.here hx rfl (hb hby at_178) rfl ?_
      show Steps p.tables e below (T103.setTop (mkF m 180 #[.val (.long w0), .second, .val (.long w1), .second, .val (.int ff), .val (.int ll), .val (.ref b47), .val (.int fr), .val (.int le), .val (.long hh), .second, .val (.long lo), .second, .unset, .unset, .unset, .unset, .unset] [(.int fr), (.int (8 : Int32)), (.long w0)])) _
      refine XS.imul X103.here hx rfl (hb hby at_180) rfl ?_
      show Steps p.tables e below (T103.setTop (mkF m 181 #[.val (.long w0), .second, .val (.long w1), .second, .val (.int ff), .val (.int ll), .val (.ref b47), .val (.int fr), .val (.int le), .val (.long hh), .second, .val (.long lo), .second, .unset, .unset, .unset, .unset, .unset] [(.int ((8 : Int32) * fr)), (.long w0)])) _
      refine XS.lshl X103.here hx rfl (hb hby at_181) rfl ?_
      show Steps p.tables e below (T103.setTop (mkF m 182 #[.val (.long w0), .second, .val (.long w1), .second, .val (.int ff), .val (.int ll), .val (.ref b47), .val (.int fr), .val (.int le), .val (.long hh), .second, .val (.long lo), .second, .unset, .unset, .unset, .unset, .unset] [(.long (w0 <<< (((8 : Int32) * fr) &&& 0x3f).toInt64))])) _
      refine XS.lload X103.here hx rfl (hb hby at_182) rfl ?_
      show Steps p.tables e below (T103.setTop (mkF m 184 #[.val (.long w0), .second, .val (.long w1), .second, .val (.int ff), .val (.int ll), .val (.ref b47), .val (.int fr), .val (.int le), .val (.long hh), .second, .val (.long lo), .second, .unset, .unset, .unset, .unset, .unset] [(.long lo), (.long (w0 <<< (((8 : Int32) * fr) &&& 0x3f).toInt64))])) _
      refine XS.bipush X103.here hx rfl (hb hby at_184) ?_
      show Steps p.tables e below (T103.setTop (mkF m 186 #[.val (.long w0), .second, .val (.long w1), .second, .val (.int ff), .val (.int ll), .val (.ref b47), .val (.int fr), .val (.int le), .val (.long hh), .second, .val (.long lo), .second, .unset, .unset, .unset, .unset, .unset] [(.int (32 : Int32)), (.long lo), (.long (w0 <<< (((8 : Int32) * fr) &&& 0x3f).toInt64))])) _
      refine XS.lshl X103.here hx rfl (hb hby at_186) rfl ?_
      show Steps p.tables e below (T103.setTop (mkF m 187 #[.val (.long w0), .second, .val (.long w1), .second, .val (.int ff), .val (.int ll), .val (.ref b47), .val (.int fr), .val (.int le), .val (.long hh), .second, .val (.long lo), .second, .unset, .unset, .unset, .unset, .unset] [(.long (lo <<< ((32 : Int32) &&& 0x3f).toInt64)), (.long (w0 <<< (((8 : Int32) * fr) &&& 0x3f).toInt64))])) _
      refine XS.bipush X103.here hx rfl (hb hby at_187) ?_
      show Steps p.tables e below (T103.setTop (mkF m 189 #[.val (.long w0), .second, .val (.long w1), .second, .val (.int ff), .val (.int ll), .val (.ref b47), .val (.int fr), .val (.int le), .val (.long hh), .second, .val (.long lo), .second, .unset, .unset, .unset, .unset, .unset] [(.int (64 : Int32)), (.long (lo <<< ((32 : Int32) &&& 0x3f).toInt64)), (.long (w0 <<< (((8 : Int32) * fr) &&& 0x3f).toInt64))])) _
      refine XS.bipush X103.here hx rfl (hb hby at_189) ?_
      show Steps p.tables e below (T103.setTop (mkF m 191 #[.val (.long w0), .second, .val (.long w1), .second, .val (.int ff), .val (.int ll), .val (.ref b47), .val (.int fr), .val (.int le), .val (.long hh), .second, .val (.long lo), .second, .unset, .unset, .unset, .unset, .unset] [(.int (8 : Int32)), (.int (64 : Int32)), (.long (lo <<< ((32 : Int32) &&& 0x3f).toInt64)), (.long (w0 <<< (((8 : Int32) * fr) &&& 0x3f).toInt64))])) _
      refine XS.iload X103.here hx rfl (hb hby at_191) rfl ?_
      show Steps p.tables e below (T103.setTop (mkF m 193 #[.val (.long w0), .second, .val (.long w1), .second, .val (.int ff), .val (.int ll), .val (.ref b47), .val (.int fr), .val (.int le), .val (.long hh), .second, .val (.long lo), .second, .unset, .unset, .unset, .unset, .unset] [(.int fr), (.int (8 : Int32)), (.int (64 : Int32)), (.long (lo <<< ((32 : Int32) &&& 0x3f).toInt64)), (.long (w0 <<< (((8 : Int32) * fr) &&& 0x3f).toInt64))])) _
      refine XS.imul X103.here hx rfl (hb hby at_193) rfl ?_
      show Steps p.tables e below (T103.setTop (mkF m 194 #[.val (.long w0), .second, .val (.long w1), .second, .val (.int ff), .val (.int ll), .val (.ref b47), .val (.int fr), .val (.int le), .val (.long hh), .second, .val (.long lo), .second, .unset, .unset, .unset, .unset, .unset] [(.int ((8 : Int32) * fr)), (.int (64 : Int32)), (.long (lo <<< ((32 : Int32) &&& 0x3f).toInt64)), (.long (w0 <<< (((8 : Int32) * fr) &&& 0x3f).toInt64))])) _
      refine XS.isub X103.here hx rfl (hb hby at_194) rfl ?_
      show Steps p.tables e below (T103.setTop (mkF m 195 #[.val (.long w0), .second, .val (.long w1), .second, .val (.int ff), .val (.int ll), .val (.ref b47), .val (.int fr), .val (.int le), .val (.long hh), .second, .val (.long lo), .second, .unset, .unset, .unset, .unset, .unset] [(.int ((64 : Int32) - ((8 : Int32) * fr))), (.long (lo <<< ((32 : Int32) &&& 0x3f).toInt64)), (.long (w0 <<< (((8 : Int32) * fr) &&& 0x3f).toInt64))])) _
      refine XS.lushr X103.here hx rfl (hb hby at_195) rfl ?_
      show Steps p.tables e below (T103.setTop (mkF m 196 #[.val (.long w0), .second, .val (.long w1), .second, .val (.int ff), .val (.int ll), .val (.ref b47), .val (.int fr), .val (.int le), .val (.long hh), .second, .val (.long lo), .second, .unset, .unset, .unset, .unset, .unset] [(.long (((lo <<< ((32 : Int32) &&& 0x3f).toInt64).toUInt64 >>> (((64 : Int32) - ((8 : Int32) * fr)) &&& 0x3f).toInt64.toUInt64).toInt64)), (.long (w0 <<< (((8 : Int32) * fr) &&& 0x3f).toInt64))])) _
      refine XS.lor X103.here hx rfl (hb hby at_196) rfl ?_
      exact hk
  obtain ⟨_, _, ⟨T110, L110, k110, n110⟩, -, X110, ⟨Lc110, hQ110, l110, y110, z110⟩, st110⟩ := Jvm.LawKit.callS X103 hx (y := (⟨"java/lang/Math", "min", "(II)I"⟩ : MethodName)) hown (mvT hZ (hw _ (List.mem_of_getElem? (i := 7) rfl))) (mvT hZ (hw _ (List.mem_of_getElem? (i := 8) rfl))) (mvT hZ (hw _ (List.mem_of_getElem? (i := 9) rfl))) (mvT hZ (hw _ (List.mem_of_getElem? (i := 10) rfl))) (by decide) (backOf (W := 0) (rm2 l Z a0 hw [] le (8 : Int32)  h95 n0 Z97 ) hZ (hw _ (List.mem_of_getElem? (i := 10) rfl)) (hw _ (List.mem_of_getElem? (i := 9) rfl)) (by decide) (by decide)) (g := (mkF m 203 #[.val (.long w0), .second, .val (.long w1), .second, .val (.int ff), .val (.int ll), .val (.ref b47), .val (.int fr), .val (.int le), .val (.long hh), .second, .val (.long lo), .second, .val (.long wi), .second, .unset, .unset, .unset] [(.int (8 : Int32)), (.int le)])) rfl (by rw [hml]; rfl) (argsL := [(.int le), (.int (8 : Int32))]) (rest := []) (lenOf pd_2 rfl) rfl (by show 2 * 0 + _ ≤ _; exact Nat.le_of_eq rfl) (hb hby at_203) (fun _ _ => ⟨rfl, e103, (by decide : 1 + 0 ≤ _), (by decide : 12 + 0 ≤ _)⟩)
  dsimp only [Pt.U, Pt.locs, Pt.cells, Pt.slots] at X110 l110 y110 z110 st110 hQ110
  subst l110 y110 z110
  obtain ⟨nn, rfl, hnn, N110q, e110⟩ := hQ110
  have N110 := Fr.app N103 N110q
  have k111 : ∀ t, Steps p.tables e below (T110.setTop (mkF m 210 #[.val (.long w0), .second, .val (.long w1), .second, .val (.int ff), .val (.int ll), .val (.ref b47), .val (.int fr), .val (.int le), .val (.long hh), .second, .val (.long lo), .second, .val (.long wi), .second, .val (.int nn), .unset, .unset] [(.int nn)])) t → Steps p.tables e below (s₁.setTop (entryFrame m #[(.long w0), (.long w1), (.int ff), (.int ll)] maxLocals)) t := fun t hk => k109 t (by
    show Steps p.tables e below (T103.setTop (mkF m 197 #[.val (.long w0), .second, .val (.long w1), .second, .val (.int ff), .val (.int ll), .val (.ref b47), .val (.int fr), .val (.int le), .val (.long hh), .second, .val (.long lo), .second, .unset, .unset, .unset, .unset, .unset] [(.long wi)])) _
    refine XS.lstore X103.here hx rfl (hb hby at_197) rfl (l' := #[.val (.long w0), .second, .val (.long w1), .second, .val (.int ff), .val (.int ll), .val (.ref b47), .val (.int fr), .val (.int le), .val (.long hh), .second, .val (.long lo), .second, .val (.long wi), .second, .unset, .unset, .unset]) rfl ?_
    show Steps p.tables e below (T103.setTop (mkF m 199 #[.val (.long w0), .second, .val (.long w1), .second, .val (.int ff), .val (.int ll), .val (.ref b47), .val (.int fr), .val (.int le), .val (.long hh), .second, .val (.long lo), .second, .val (.long wi), .second, .unset, .unset, .unset] [])) _
    refine XS.iload X103.here hx rfl (hb hby at_199) rfl ?_
    show Steps p.tables e below (T103.setTop (mkF m 201 #[.val (.long w0), .second, .val (.long w1), .second, .val (.int ff), .val (.int ll), .val (.ref b47), .val (.int fr), .val (.int le), .val (.long hh), .second, .val (.long lo), .second, .val (.long wi), .second, .unset, .unset, .unset] [(.int le)])) _
    refine XS.bipush X103.here hx rfl (hb hby at_201) ?_
    show Steps p.tables e below (T103.setTop (mkF m 203 #[.val (.long w0), .second, .val (.long w1), .second, .val (.int ff), .val (.int ll), .val (.ref b47), .val (.int fr), .val (.int le), .val (.long hh), .second, .val (.long lo), .second, .val (.long wi), .second, .unset, .unset, .unset] [(.int (8 : Int32)), (.int le)])) _
    refine st110 _ ?_
    show Steps p.tables e below (T110.setTop (mkF m 206 #[.val (.long w0), .second, .val (.long w1), .second, .val (.int ff), .val (.int ll), .val (.ref b47), .val (.int fr), .val (.int le), .val (.long hh), .second, .val (.long lo), .second, .val (.long wi), .second, .unset, .unset, .unset] [(.int nn)])) _
    refine XS.istore X110.here hx rfl (hb hby at_206) rfl (l' := #[.val (.long w0), .second, .val (.long w1), .second, .val (.int ff), .val (.int ll), .val (.ref b47), .val (.int fr), .val (.int le), .val (.long hh), .second, .val (.long lo), .second, .val (.long wi), .second, .val (.int nn), .unset, .unset]) rfl ?_
    show Steps p.tables e below (T110.setTop (mkF m 208 #[.val (.long w0), .second, .val (.long w1), .second, .val (.int ff), .val (.int ll), .val (.ref b47), .val (.int fr), .val (.int le), .val (.long hh), .second, .val (.long lo), .second, .val (.long wi), .second, .val (.int nn), .unset, .unset] [])) _
    refine XS.iload X110.here hx rfl (hb hby at_208) rfl ?_
    exact hk)
  obtain ⟨ma, hma, k112⟩ : ∃ (ma : Int64), (ma = (if nn = (0 : Int32) then (0 : Int64) else ((-1 : Int64) <<< (((64 : Int32) - ((8 : Int32) * nn)) &&& 0x3f).toInt64))) ∧ ∀ t, Steps p.tables e below (T110.setTop (mkF m 229 #[.val (.long w0), .second, .val (.long w1), .second, .val (.int ff), .val (.int ll), .val (.ref b47), .val (.int fr), .val (.int le), .val (.long hh), .second, .val (.long lo), .second, .val (.long wi), .second, .val (.int nn), .unset, .unset] [(.long ma)])) t → Steps p.tables e below (s₁.setTop (entryFrame m #[(.long w0), (.long w1), (.int ff), (.int ll)] maxLocals)) t := by
    by_cases hc210 : nn = (0 : Int32)
    ·
      refine ⟨(0 : Int64), ((if_pos hc210).trans rfl).symm, fun t hk => k111 t ?_⟩
      show Steps p.tables e below (T110.setTop (mkF m 210 #[.val (.long w0), .second, .val (.long w1), .second, .val (.int ff), .val (.int ll), .val (.ref b47), .val (.int fr), .val (.int le), .val (.long hh), .second, .val (.long lo), .second, .val (.long wi), .second, .val (.int nn), .unset, .unset] [(.int nn)])) _
      refine XS.ifNo X110.here hx rfl (hb hby at_210) rfl ((if0 _ _).trans (teq hc210).2) ?_
      show Steps p.tables e below (T110.setTop (mkF m 213 #[.val (.long w0), .second, .val (.long w1), .second, .val (.int ff), .val (.int ll), .val (.ref b47), .val (.int fr), .val (.int le), .val (.long hh), .second, .val (.long lo), .second, .val (.long wi), .second, .val (.int nn), .unset, .unset] [])) _
      refine XS.lconst X110.here hx rfl (hb hby at_213) ?_
      show Steps p.tables e below (T110.setTop (mkF m 214 #[.val (.long w0), .second, .val (.long w1), .second, .val (.int ff), .val (.int ll), .val (.ref b47), .val (.int fr), .val (.int le), .val (.long hh), .second, .val (.long lo), .second, .val (.long wi), .second, .val (.int nn), .unset, .unset] [(.long (0 : Int64))])) _
      refine XS.goto X110.here hx rfl (pc0 := 214) (pc' := 229) rfl (hb hby at_214) (by decide) (by decide) ?_
      exact hk
    ·
      refine ⟨((-1 : Int64) <<< (((64 : Int32) - ((8 : Int32) * nn)) &&& 0x3f).toInt64), ((if_neg hc210).trans rfl).symm, fun t hk => k111 t ?_⟩
      show Steps p.tables e below (T110.setTop (mkF m 210 #[.val (.long w0), .second, .val (.long w1), .second, .val (.int ff), .val (.int ll), .val (.ref b47), .val (.int fr), .val (.int le), .val (.long hh), .second, .val (.long lo), .second, .val (.long wi), .second, .val (.int nn), .unset, .unset] [(.int nn)])) _
      refine XS.ifYes X110.here hx rfl (pc0 := 210) (pc' := 217) rfl (hb hby at_210) rfl ((if0 _ _).trans (feq hc210).2) (by decide) (by decide) ?_
      show Steps p.tables e below (T110.setTop (mkF m 217 #[.val (.long w0), .second, .val (.long w1), .second, .val (.int ff), .val (.int ll), .val (.ref b47), .val (.int fr), .val (.int le), .val (.long hh), .second, .val (.long lo), .second, .val (.long wi), .second, .val (.int nn), .unset, .unset] [])) _
      refine X110.ldc2Long hx hown (mvT hZ (hw _ (List.mem_of_getElem? (i := 11) rfl))) (g := (mkF m 217 #[.val (.long w0), .second, .val (.long w1), .second, .val (.int ff), .val (.int ll), .val (.ref b47), .val (.int fr), .val (.int le), .val (.long hh), .second, .val (.long lo), .second, .val (.long wi), .second, .val (.int nn), .unset, .unset] [])) rfl (hb hby at_217) _ ?_
      show Steps p.tables e below (T110.setTop (mkF m 220 #[.val (.long w0), .second, .val (.long w1), .second, .val (.int ff), .val (.int ll), .val (.ref b47), .val (.int fr), .val (.int le), .val (.long hh), .second, .val (.long lo), .second, .val (.long wi), .second, .val (.int nn), .unset, .unset] [(.long (-1 : Int64))])) _
      refine XS.bipush X110.here hx rfl (hb hby at_220) ?_
      show Steps p.tables e below (T110.setTop (mkF m 222 #[.val (.long w0), .second, .val (.long w1), .second, .val (.int ff), .val (.int ll), .val (.ref b47), .val (.int fr), .val (.int le), .val (.long hh), .second, .val (.long lo), .second, .val (.long wi), .second, .val (.int nn), .unset, .unset] [(.int (64 : Int32)), (.long (-1 : Int64))])) _
      refine XS.bipush X110.here hx rfl (hb hby at_222) ?_
      show Steps p.tables e below (T110.setTop (mkF m 224 #[.val (.long w0), .second, .val (.long w1), .second, .val (.int ff), .val (.int ll), .val (.ref b47), .val (.int fr), .val (.int le), .val (.long hh), .second, .val (.long lo), .second, .val (.long wi), .second, .val (.int nn), .unset, .unset] [(.int (8 : Int32)), (.int (64 : Int32)), (.long (-1 : Int64))])) _
      refine XS.iload X110.here hx rfl (hb hby at_224) rfl ?_
      show Steps p.tables e below (T110.setTop (mkF m 226 #[.val (.long w0), .second, .val (.long w1), .second, .val (.int ff), .val (.int ll), .val (.ref b47), .val (.int fr), .val (.int le), .val (.long hh), .second, .val (.long lo), .second, .val (.long wi), .second, .val (.int nn), .unset, .unset] [(.int nn), (.int (8 : Int32)), (.int (64 : Int32)), (.long (-1 : Int64))])) _
      refine XS.imul X110.here hx rfl (hb hby at_226) rfl ?_
      show Steps p.tables e below (T110.setTop (mkF m 227 #[.val (.long w0), .second, .val (.long w1), .second, .val (.int ff), .val (.int ll), .val (.ref b47), .val (.int fr), .val (.int le), .val (.long hh), .second, .val (.long lo), .second, .val (.long wi), .second, .val (.int nn), .unset, .unset] [(.int ((8 : Int32) * nn)), (.int (64 : Int32)), (.long (-1 : Int64))])) _
      refine XS.isub X110.here hx rfl (hb hby at_227) rfl ?_
      show Steps p.tables e below (T110.setTop (mkF m 228 #[.val (.long w0), .second, .val (.long w1), .second, .val (.int ff), .val (.int ll), .val (.ref b47), .val (.int fr), .val (.int le), .val (.long hh), .second, .val (.long lo), .second, .val (.long wi), .second, .val (.int nn), .unset, .unset] [(.int ((64 : Int32) - ((8 : Int32) * nn))), (.long (-1 : Int64))])) _
      refine XS.lshl X110.here hx rfl (hb hby at_228) rfl ?_
      exact hk
  have k113 : ∀ t, Steps p.tables e below (T110.setTop (mkF m 239 #[.val (.long w0), .second, .val (.long w1), .second, .val (.int ff), .val (.int ll), .val (.ref b47), .val (.int fr), .val (.int le), .val (.long hh), .second, .val (.long lo), .second, .val (.long wi), .second, .val (.int nn), .val (.long ma), .second] [(.int (lcmpW hh (wi &&& ma)))])) t → Steps p.tables e below (s₁.setTop (entryFrame m #[(.long w0), (.long w1), (.int ff), (.int ll)] maxLocals)) t := fun t hk => k112 t (by
    show Steps p.tables e below (T110.setTop (mkF m 229 #[.val (.long w0), .second, .val (.long w1), .second, .val (.int ff), .val (.int ll), .val (.ref b47), .val (.int fr), .val (.int le), .val (.long hh), .second, .val (.long lo), .second, .val (.long wi), .second, .val (.int nn), .unset, .unset] [(.long ma)])) _
    refine XS.lstore X110.here hx rfl (hb hby at_229) rfl (l' := #[.val (.long w0), .second, .val (.long w1), .second, .val (.int ff), .val (.int ll), .val (.ref b47), .val (.int fr), .val (.int le), .val (.long hh), .second, .val (.long lo), .second, .val (.long wi), .second, .val (.int nn), .val (.long ma), .second]) rfl ?_
    show Steps p.tables e below (T110.setTop (mkF m 231 #[.val (.long w0), .second, .val (.long w1), .second, .val (.int ff), .val (.int ll), .val (.ref b47), .val (.int fr), .val (.int le), .val (.long hh), .second, .val (.long lo), .second, .val (.long wi), .second, .val (.int nn), .val (.long ma), .second] [])) _
    refine XS.lload X110.here hx rfl (hb hby at_231) rfl ?_
    show Steps p.tables e below (T110.setTop (mkF m 233 #[.val (.long w0), .second, .val (.long w1), .second, .val (.int ff), .val (.int ll), .val (.ref b47), .val (.int fr), .val (.int le), .val (.long hh), .second, .val (.long lo), .second, .val (.long wi), .second, .val (.int nn), .val (.long ma), .second] [(.long hh)])) _
    refine XS.lload X110.here hx rfl (hb hby at_233) rfl ?_
    show Steps p.tables e below (T110.setTop (mkF m 235 #[.val (.long w0), .second, .val (.long w1), .second, .val (.int ff), .val (.int ll), .val (.ref b47), .val (.int fr), .val (.int le), .val (.long hh), .second, .val (.long lo), .second, .val (.long wi), .second, .val (.int nn), .val (.long ma), .second] [(.long wi), (.long hh)])) _
    refine XS.lload X110.here hx rfl (hb hby at_235) rfl ?_
    show Steps p.tables e below (T110.setTop (mkF m 237 #[.val (.long w0), .second, .val (.long w1), .second, .val (.int ff), .val (.int ll), .val (.ref b47), .val (.int fr), .val (.int le), .val (.long hh), .second, .val (.long lo), .second, .val (.long wi), .second, .val (.int nn), .val (.long ma), .second] [(.long ma), (.long wi), (.long hh)])) _
    refine XS.land X110.here hx rfl (hb hby at_237) rfl ?_
    show Steps p.tables e below (T110.setTop (mkF m 238 #[.val (.long w0), .second, .val (.long w1), .second, .val (.int ff), .val (.int ll), .val (.ref b47), .val (.int fr), .val (.int le), .val (.long hh), .second, .val (.long lo), .second, .val (.long wi), .second, .val (.int nn), .val (.long ma), .second] [(.long (wi &&& ma)), (.long hh)])) _
    refine XS.lcmp X110.here hx rfl (hb hby at_238) rfl ?_
    exact hk)
  have hfin : hh = (wi &&& ma) := own_plain w0 w1 fr le nn lo wi ma hh hf0 hf1 hl.1 hhh hlo hwi hnn hma
  have k114 : ∀ t, Steps p.tables e below (T110.setTop (mkF m 247 #[.val (.long w0), .second, .val (.long w1), .second, .val (.int ff), .val (.int ll), .val (.ref b47), .val (.int fr), .val (.int le), .val (.long hh), .second, .val (.long lo), .second, .val (.long wi), .second, .val (.int nn), .val (.long ma), .second] [(.int (1 : Int32))])) t → Steps p.tables e below (s₁.setTop (entryFrame m #[(.long w0), (.long w1), (.int ff), (.int ll)] maxLocals)) t := fun t hk => k113 t (by
    show Steps p.tables e below (T110.setTop (mkF m 239 #[.val (.long w0), .second, .val (.long w1), .second, .val (.int ff), .val (.int ll), .val (.ref b47), .val (.int fr), .val (.int le), .val (.long hh), .second, .val (.long lo), .second, .val (.long wi), .second, .val (.int nn), .val (.long ma), .second] [(.int (lcmpW hh (wi &&& ma)))])) _
    refine XS.ifNo X110.here hx rfl (hb hby at_239) rfl ((if0 _ _).trans (teq ((lw_eq _ _).mpr hfin)).2) ?_
    show Steps p.tables e below (T110.setTop (mkF m 242 #[.val (.long w0), .second, .val (.long w1), .second, .val (.int ff), .val (.int ll), .val (.ref b47), .val (.int fr), .val (.int le), .val (.long hh), .second, .val (.long lo), .second, .val (.long wi), .second, .val (.int nn), .val (.long ma), .second] [])) _
    refine XS.iconst X110.here hx rfl (hb hby at_242) ?_
    show Steps p.tables e below (T110.setTop (mkF m 243 #[.val (.long w0), .second, .val (.long w1), .second, .val (.int ff), .val (.int ll), .val (.ref b47), .val (.int fr), .val (.int le), .val (.long hh), .second, .val (.long lo), .second, .val (.long wi), .second, .val (.int nn), .val (.long ma), .second] [(.int (1 : Int32))])) _
    refine XS.goto X110.here hx rfl (pc0 := 243) (pc' := 247) rfl (hb hby at_243) (by decide) (by decide) ?_
    exact hk)
  obtain ⟨fs, hr, hrun, hended, hW, hsame⟩ := X110.leave (v := some (.int (nar .boolean (1 : Int32)))) (fun h => by rw [Bd.returns] at h; cases h)
  refine ⟨_, _, k114 _ ?_, hrun, hended, _, _, rfl, ?_, ⟨_, rfl⟩, hW, hsame.mono (by decide) (by decide)⟩
  · show Steps p.tables e below (T110.setTop (mkF m 247 #[.val (.long w0), .second, .val (.long w1), .second, .val (.int ff), .val (.int ll), .val (.ref b47), .val (.int fr), .val (.int le), .val (.long hh), .second, .val (.long lo), .second, .val (.long wi), .second, .val (.int nn), .val (.long ma), .second] [(.int (1 : Int32))])) _
    exact retN X110 hx (t := .boolean) Bd.returns (by simp) (hb hby at_247) hr
  · show Q0 Z w0 w1 ff ll h0 n0 _ T110.heap _
    rw [e110]
    exact ⟨rfl, N110⟩
set_option maxRecDepth 65536 in
set_option maxHeartbeats 40000000 in
theorem comes_1 {Post : Tables → Env → Array Value → State → Outcome → State → Prop} (hpost : ∀ tb e args s v u, (limb_1_1.after args s (.returned v) u = true ∧ limb_1_2.after args s (.returned v) u = true ∧ True) → FrameEnd s (.returned v) u (Jvm.fieldLocs frame_1_writes args s ++ Jvm.arrayLocs frame_1_arrays args s ++ Jvm.staticLocs frame_1_statics s) 16 128 → Post tb e args s (.returned v) u) :
    ArmFor flags0 classFile x code maxLocals ret World_1 tables_1 room_1 Calls_1 rest_1 Pre_1 Post := by
  intro l hfl _ _ p e ha hc hk s m args below hf hA hF happ hP
  obtain ⟨hcalls, hrest, hpre⟩ := hP
  obtain ⟨-, -, -, hnamed, -, -, -, hat⟩ := (Spec.applies_iff hf).mp happ
  obtain ⟨hg, hn⟩ := and_e (Cond.before_iff.mp (show (Jvm.Cond.and given_1 narrow_1).before args s = true from hpre))
  obtain ⟨hcnt, hg0⟩ := and_e hg
  obtain ⟨hv0, hg1⟩ := and_e hg0
  obtain ⟨hv1, hg2⟩ := and_e hg1
  obtain ⟨hv2, hg3⟩ := and_e hg2
  have hv3 := hg3
  obtain ⟨w0, w1, w2, w3, rfl⟩ : ∃ w0 w1 w2 w3 : Value, args = #[w0, w1, w2, w3] := by
    have hs : args.size = 4 := by simpa [Cond.value, given_1] using hcnt
    obtain ⟨L⟩ := args
    match L, hs with
    | [w0, w1, w2, w3], _ => exact ⟨w0, w1, w2, w3, rfl⟩
  have hw := fun d (hd : d ∈ tables_1) => atoms_spec (ws := Jvm.Cond.code x code maxLocals ret :: tables_1) hat d (List.mem_cons_of_mem _ hd)
  obtain ⟨i0, ei0⟩ := isL_v hv0
  obtain rfl : w0 = (.long i0) := Option.some.inj ei0
  obtain ⟨i1, ei1⟩ := isL_v hv1
  obtain rfl : w1 = (.long i1) := Option.some.inj ei1
  obtain ⟨i2, ei2⟩ := is_v hv2
  obtain rfl : w2 = (.int i2) := Option.some.inj ei2
  obtain ⟨i3, ei3⟩ := is_v hv3
  obtain rfl : w3 = (.int i3) := Option.some.inj ei3
  obtain ⟨n, o, h1, h2, h3, _, L, rfl, ⟨rfl, N⟩, hq⟩ := rm0 l s _ hw tables_1 i0 i1 i2 i3 s.heap s.heap.size (Nat.le_refl _)  p e ha hc hk s m _ below hf ((Spec.applies_iff_loose hf).mp happ).1 ⟨rfl, State.Warmed39.refl s, rfl⟩ trivial
  refine ⟨n, _, h1, h2, h3, hpost _ _ _ _ _ _ ⟨Cond.after_iff.mpr rfl, Cond.after_iff.mpr (eq_i res_at (Term.int_eval (1)) rfl), trivial⟩ ⟨hq.1, hq.2.1, (hq.2.2.sift fun y hy => Or.inr (N y hy)).mono (by decide) (by decide)⟩⟩
theorem main_1_1 : Claimed_1_1 := comes_1 fun _ _ _ _ _ _ h hF => ⟨h.1, hF⟩
theorem main_1_2 : Claimed_1_2 := comes_1 fun _ _ _ _ _ _ h hF => ⟨h.2.1, hF⟩
end Jvm.Pilot.@@N@@
namespace Jvm.Pilot.@@N@@
open Jvm Jvm.ClassFile Sem Op Lib Jvm.Free Jvm.Stand Jvm.Pilot.@@N@@.Jvm.D
/-! MADE BY PROGRAM (witnessworld.py) out of the Statement's table words and the real class files: 10 classes; the members and pool entries that the words name. The judged class is class 1, her method 1. -/
namespace start1
open Jvm.ClassFile
def u (s : String) : CpInfo := .utf8 (stringToUtf16 s)
/-- a pool by its gaps: so many unusable entries, then the entry; so many at the end -/
def gap : Nat → List CpInfo → List CpInfo
  | 0, r => r
  | n + 1, r => .unusable :: gap n r
def poolList (es : List (Nat × CpInfo)) (last : Nat) : List CpInfo := es.foldr (fun e r => gap e.1 (e.2 :: r)) (gap last [])
def pool (es : List (Nat × CpInfo)) (last : Nat) : Array CpInfo := ⟨poolList es last⟩
def fileOf (pool : Array CpInfo) (this : Nat) (attrs : Array Attribute := #[]) (ms : Array MethodInfo := #[]) (fl : Nat := 33) (sup : Nat := 0) (ifs : Array Nat := #[]) (fds : Array FieldInfo := #[]) : ClassFile where
  minorVersion := 0
  majorVersion := 65
  constantPool := pool
  accessFlags := fl
  thisClass := this
  superClass := sup
  interfaces := ifs
  fields := fds
  methods := ms
  attributes := attrs
def plain (name : String) (sup : Option ClassId) : Class where
  name := name
  kind := .ordinary
  loader := none
  accessFlags := 33
  super := sup
  interfaces := #[]
  cf := none
  fields := #[]
  methods := #[]
  instanceTypes := #[]
  staticTypes := #[]
  resolved := #[]
  callSites := []
  init := .initialized
  statics := none
  mirror := none

def pool0 : Array CpInfo := pool [(5, u "<init>"), (0, u "()V"), (1, .class_ 10), (1, u "java/lang/Object")] 113

def k0m0 : Method := { name := "<init>", desc := "()V", sig := { parameters := [], returnType := none }, accessFlags := 1, code := none }
/-- java/lang/Object -/
def k0 : Class := { plain "java/lang/Object" none with
  accessFlags := 33
  interfaces := #[]
  cf := some (fileOf pool0 8 #[] #[{ accessFlags := 1, nameIndex := 5, descriptorIndex := 6, attributes := #[] }] 33 0 #[] #[])
  fields := #[]
  methods := #[k0m0]
  instanceTypes := #[]
  staticTypes := #[]
  resolved := Array.replicate 124 none
  statics := none }

def pool1 : Array CpInfo := pool [(2, .class_ 4), (1, u "java/lang/Object"), (0, u "<init>"), (0, u "()V"), (0, .integer 2147483647), (0, .methodref 9 10), (0, .class_ 11), (0, .nameAndType 12 13), (0, u "com/example/lexgap/lexgap/index/FrontCoding"), (0, u "head"), (0, u "([BII)J"), (0, .long 4294967295), (1, .methodref 17 18), (0, .class_ 19), (0, .nameAndType 20 21), (0, u "java/lang/Math"), (0, u "min"), (0, u "(II)I"), (0, .long 18446744073709551615), (1, .class_ 25), (0, u "com/example/lexgap/lexgap/index/FrontCodingHeadPinLaw"), (2, u "law"), (0, u "(JJII)Z")] 5

def k1m0 : Method := { name := "<init>", desc := "()V", sig := { parameters := [], returnType := none }, accessFlags := 2, code := none }
def k1c1 : Code := { maxStack := 7, maxLocals := 18, code := code, exceptionTable := #[], attributes := #[] }
def k1m1 : Method := { name := "law", desc := "(JJII)Z", sig := { parameters := [.long, .long, .int, .int], returnType := some .boolean }, accessFlags := 9, code := some k1c1 }
/-- com/example/lexgap/lexgap/index/FrontCodingHeadPinLaw -/
def k1 : Class := { plain "com/example/lexgap/lexgap/index/FrontCodingHeadPinLaw" (some 0) with
  accessFlags := 49
  interfaces := #[]
  cf := some (fileOf pool1 24 #[] #[{ accessFlags := 2, nameIndex := 5, descriptorIndex := 6, attributes := #[] }, { accessFlags := 9, nameIndex := 28, descriptorIndex := 29, attributes := #[] }] 49 2 #[] #[])
  fields := #[]
  methods := #[k1m0, k1m1]
  instanceTypes := #[]
  staticTypes := #[]
  resolved := Array.replicate 35 none
  statics := none }

def pool2 : Array CpInfo := pool [(2, .class_ 4), (1, u "java/lang/Object"), (0, u "<init>"), (0, u "()V"), (1, .class_ 10), (1, u "com/example/lexgap/lexgap/index/FrontCoding"), (0, u "previous"), (0, u "[B"), (14, u "length"), (0, u "I"), (135, u "head"), (0, u "([BII)J"), (8, .class_ 175), (0, u "com/example/lexgap/lexgap/index/FrontCoding$Search")] 16

def k2m0 : Method := { name := "<init>", desc := "()V", sig := { parameters := [], returnType := none }, accessFlags := 0, code := none }
def k2c1 : Code := { maxStack := 5, maxLocals := 6, code := prog_110_method_10_code, exceptionTable := #[], attributes := #[] }
def k2m1 : Method := { name := "head", desc := "([BII)J", sig := { parameters := [(.array .byte), .int, .int], returnType := some .long }, accessFlags := 8, code := some k2c1 }
/-- com/example/lexgap/lexgap/index/FrontCoding -/
def k2 : Class := { plain "com/example/lexgap/lexgap/index/FrontCoding" (some 0) with
  accessFlags := 48
  interfaces := #[]
  cf := some (fileOf pool2 8 #[.nestMembers #[174]] #[{ accessFlags := 0, nameIndex := 5, descriptorIndex := 6, attributes := #[] }, { accessFlags := 8, nameIndex := 164, descriptorIndex := 165, attributes := #[] }] 48 2 #[] #[{ accessFlags := 2, nameIndex := 11, descriptorIndex := 12, attributes := #[] }, { accessFlags := 2, nameIndex := 27, descriptorIndex := 28, attributes := #[] }])
  fields := #[{ name := "previous", type := (.array .byte), accessFlags := 2, slot := 0, constantValue := 0 }, { name := "length", type := .int, accessFlags := 2, slot := 1, constantValue := 0 }]
  methods := #[k2m0, k2m1]
  instanceTypes := #[(.array .byte), .int]
  staticTypes := #[]
  resolved := Array.replicate 192 none
  statics := none }

def pool3 : Array CpInfo := pool [(1, .class_ 2), (0, u "java/lang/Math"), (1, .class_ 6), (1, u "java/lang/Object"), (0, u "<init>"), (0, u "()V"), (89, .class_ 100), (1, u "java/lang/Math$RandomNumberGeneratorHolder"), (71, u "negativeZeroFloatBits"), (0, u "J"), (2, u "negativeZeroDoubleBits"), (24, u "min"), (43, u "$assertionsDisabled"), (0, u "Z"), (88, u "(II)I"), (2, u "twoToTheDoubleScaleDown"), (0, u "D"), (4, u "twoToTheDoubleScaleUp"), (9, u "E"), (3, u "PI"), (2, u "TAU"), (2, u "DEGREES_TO_RADIANS"), (0, u "RADIANS_TO_DEGREES")] 94

def k3m0 : Method := { name := "<init>", desc := "()V", sig := { parameters := [], returnType := none }, accessFlags := 2, code := none }
def k3c1 : Code := { maxStack := 2, maxLocals := 2, code := jdk_29_method_69_code, exceptionTable := #[], attributes := #[] }
def k3m1 : Method := { name := "min", desc := "(II)I", sig := { parameters := [.int, .int], returnType := some .int }, accessFlags := 9, code := some k3c1 }
/-- java/lang/Math -/
def k3 : Class := { plain "java/lang/Math" (some 0) with
  accessFlags := 49
  interfaces := #[]
  cf := some (fileOf pool3 1 #[.nestMembers #[98]] #[{ accessFlags := 2, nameIndex := 7, descriptorIndex := 8, attributes := #[] }, { accessFlags := 9, nameIndex := 201, descriptorIndex := 335, attributes := #[] }] 49 4 #[] #[{ accessFlags := 25, nameIndex := 354, descriptorIndex := 339, attributes := #[] }, { accessFlags := 25, nameIndex := 358, descriptorIndex := 339, attributes := #[] }, { accessFlags := 25, nameIndex := 361, descriptorIndex := 339, attributes := #[] }, { accessFlags := 26, nameIndex := 364, descriptorIndex := 339, attributes := #[] }, { accessFlags := 26, nameIndex := 365, descriptorIndex := 339, attributes := #[] }, { accessFlags := 26, nameIndex := 172, descriptorIndex := 173, attributes := #[] }, { accessFlags := 26, nameIndex := 176, descriptorIndex := 173, attributes := #[] }, { accessFlags := 8, nameIndex := 344, descriptorIndex := 339, attributes := #[] }, { accessFlags := 8, nameIndex := 338, descriptorIndex := 339, attributes := #[] }, { accessFlags := 4120, nameIndex := 245, descriptorIndex := 246, attributes := #[] }])
  fields := #[{ name := "E", type := .double, accessFlags := 25, slot := 0, constantValue := 0 }, { name := "PI", type := .double, accessFlags := 25, slot := 1, constantValue := 0 }, { name := "TAU", type := .double, accessFlags := 25, slot := 2, constantValue := 0 }, { name := "DEGREES_TO_RADIANS", type := .double, accessFlags := 26, slot := 3, constantValue := 0 }, { name := "RADIANS_TO_DEGREES", type := .double, accessFlags := 26, slot := 4, constantValue := 0 }, { name := "negativeZeroFloatBits", type := .long, accessFlags := 26, slot := 5, constantValue := 0 }, { name := "negativeZeroDoubleBits", type := .long, accessFlags := 26, slot := 6, constantValue := 0 }, { name := "twoToTheDoubleScaleUp", type := .double, accessFlags := 8, slot := 7, constantValue := 0 }, { name := "twoToTheDoubleScaleDown", type := .double, accessFlags := 8, slot := 8, constantValue := 0 }, { name := "$assertionsDisabled", type := .boolean, accessFlags := 4120, slot := 9, constantValue := 0 }]
  methods := #[k3m0, k3m1]
  instanceTypes := #[]
  staticTypes := #[.double, .double, .double, .double, .double, .long, .long, .double, .double, .boolean]
  resolved := Array.replicate 460 none
  statics := none }

def pool4 : Array CpInfo := pool [(1, u "java/lang/Cloneable"), (0, .class_ 1), (0, u "java/lang/Object"), (0, .class_ 3)] 3

/-- java/lang/Cloneable -/
def k4 : Class := { plain "java/lang/Cloneable" (some 0) with
  accessFlags := 1537
  interfaces := #[]
  cf := some (fileOf pool4 2 #[] #[] 1537 4 #[] #[])
  fields := #[]
  methods := #[]
  instanceTypes := #[]
  staticTypes := #[]
  resolved := Array.replicate 8 none
  statics := none }

def pool5 : Array CpInfo := pool [(1, u "java/io/Serializable"), (0, .class_ 1), (0, u "java/lang/Object"), (0, .class_ 3)] 3

/-- java/io/Serializable -/
def k5 : Class := { plain "java/io/Serializable" (some 0) with
  accessFlags := 1537
  interfaces := #[]
  cf := some (fileOf pool5 2 #[] #[] 1537 4 #[] #[])
  fields := #[]
  methods := #[]
  instanceTypes := #[]
  staticTypes := #[]
  resolved := Array.replicate 8 none
  statics := none }

/-- the primitive byte -/
def k6 : Class := { plain "byte" none with kind := .primitive 'B', accessFlags := 0x411 }
/-- [B -/
def k7 : Class := { plain "[B" (some 0) with kind := .array 6 .byte, interfaces := #[4, 5], accessFlags := 1041 }

/-- the primitive int -/
def k8 : Class := { plain "int" none with kind := .primitive 'I', accessFlags := 0x411 }
/-- [I -/
def k9 : Class := { plain "[I" (some 0) with kind := .array 8 .int, interfaces := #[4, 5], accessFlags := 1041 }

def heap : Heap := #[]
def classes : Array Class := #[k0, k1, k2, k3, k4, k5, k6, k7, k8, k9]
def interned : List (Array UInt16 × Addr) := []
def slotsUsed : Nat := 0
def theMethod : MethodId := ⟨1, 1⟩
def args0 : Array Value := #[.long 5, .long 7, .int 3, .int 4]
def aboutOver (below : List Frame) : State where
  vm := { classes := classes, interned := interned.toArray }
  heap := heap
  slotsUsed := slotsUsed
  threads := #[{ frames := .invoking theMethod args0 :: below }]
def below0 : List Frame := [.native { method := ⟨0, 0⟩, args := #[] }]
def about1 : State := aboutOver below0
def p0 : Program := .bare "" "" ""
def e0 : Env := launch0.env 0 0 0
theorem w_frames : about1.frames = Frame.invoking theMethod args0 :: below0 := rfl
set_option maxRecDepth 65536 in
theorem w_args : argsFit about1.vm theMethod args0 = true := by decide +kernel
set_option maxRecDepth 65536 in
theorem w_heap : heapFits about1 = true := by decide +kernel
set_option maxRecDepth 65536 in
theorem w_runnable : about1.curStatus? = some .runnable := by decide +kernel
set_option maxRecDepth 65536 in
theorem w_alone : about1.alone = true := by decide +kernel
set_option maxRecDepth 65536 in
theorem w_named : about1.methodNamed? x = some theMethod := by decide +kernel
set_option maxRecDepth 65536 in
theorem w_hears : about1.hears theMethod below0 = true := by decide +kernel
set_option maxRecDepth 65536 in
theorem w_ripe : about1.ripe theMethod args0 below0 = true := by decide +kernel
theorem w_running : about1.status = .running := rfl
set_option maxRecDepth 65536 in
theorem w_room : about1.hasRoom e0.platform room_1 = true :=
  launch0.hasRoom_least _ room_1 (by decide +kernel) (by decide +kernel) (by decide +kernel) (by decide +kernel) (by decide +kernel) (by decide +kernel)
theorem allAtoms_all (ts : List Jvm.Cond) (a : Array Jvm.Value) (st : Jvm.State) : (allAtoms ts).before a st = ts.all (fun c => c.before a st) := by
  induction ts with
  | nil => rfl
  | cons c t ih =>
    show (Jvm.Cond.and c (allAtoms t)).before a st = _
    rw [Jvm.Cond.before_and, ih, List.all_cons]
def words1 : List Jvm.Cond := Jvm.Cond.code x code maxLocals ret :: tables_1
/-- a 'code' word, met by the world's own term for the bytes: nothing is compared byte by byte -/
theorem code_word {y : MethodName} {bytes : ByteArray} {mx : Nat} {rt : Option FieldType} {a : Array Value} {s : State} {m : MethodId} {meth : Method} {c : Code} (h1 : s.methodNamed? y = some m) (h2 : s.vm.method? m = some meth) (h3 : meth.code = some c) (h4 : c.code = bytes)
    (h5 : (c.maxLocals == mx && c.exceptionTable.isEmpty && decide (c.maxStack ≤ mostOperands) && decide (meth.sig.returnType = rt) && !meth.locks && decide (parseMethodDescriptor y.desc = some meth.sig)) = true) : (Jvm.Cond.code y bytes mx rt).before a s = true := by
  simp only [Bool.and_eq_true, beq_iff_eq, Bool.not_eq_true', decide_eq_true_eq] at h5
  obtain ⟨⟨⟨⟨⟨g1, g2⟩, g3⟩, g4⟩, g5⟩, g6⟩ := h5
  simp [Cond.before, Cond.holds, Cond.value, h1, h2, h3, h4, g1, g2, g3, g4, g5, g6]
def isCode : Jvm.Cond → Bool
  | .code _ _ _ _ => true
  | _ => false
theorem all_split {L : List Jvm.Cond} {P : Jvm.Cond → Bool} (h1 : L.all (fun c => isCode c || P c) = true) (h2 : ∀ c ∈ L.filter isCode, P c = true) : L.all P = true := by
  refine List.all_eq_true.mpr fun c hc => ?_
  have h := List.all_eq_true.mp h1 c hc
  rcases Bool.eq_false_or_eq_true (isCode c) with hi | hi
  · exact h2 c (List.mem_filter.mpr ⟨hc, hi⟩)
  · simpa [hi] using h
set_option maxRecDepth 65536 in
theorem w_c0 : (Jvm.Cond.code x code maxLocals ret).before args0 about1 = true := code_word (m := ⟨1, 1⟩) (meth := k1m1) (c := k1c1) (by decide +kernel) rfl rfl rfl (by decide +kernel)
set_option maxRecDepth 65536 in
theorem w_c1 : (Jvm.Cond.code ({ cls := "com/example/lexgap/lexgap/index/FrontCoding", name := "head", desc := "([BII)J" } : Jvm.MethodName) prog_110_method_10_code (6 : Nat) (Option.some Jvm.ClassFile.FieldType.long)).before args0 about1 = true := code_word (m := ⟨2, 1⟩) (meth := k2m1) (c := k2c1) (by decide +kernel) rfl rfl rfl (by decide +kernel)
set_option maxRecDepth 65536 in
theorem w_c2 : (Jvm.Cond.code ({ cls := "java/lang/Math", name := "min", desc := "(II)I" } : Jvm.MethodName) jdk_29_method_69_code (2 : Nat) (Option.some Jvm.ClassFile.FieldType.int)).before args0 about1 = true := code_word (m := ⟨3, 1⟩) (meth := k3m1) (c := k3c1) (by decide +kernel) rfl rfl rfl (by decide +kernel)
def codes1 : List Jvm.Cond := [Jvm.Cond.code x code maxLocals ret, Jvm.Cond.code ({ cls := "com/example/lexgap/lexgap/index/FrontCoding", name := "head", desc := "([BII)J" } : Jvm.MethodName) prog_110_method_10_code (6 : Nat) (Option.some Jvm.ClassFile.FieldType.long), Jvm.Cond.code ({ cls := "java/lang/Math", name := "min", desc := "(II)I" } : Jvm.MethodName) jdk_29_method_69_code (2 : Nat) (Option.some Jvm.ClassFile.FieldType.int)]
set_option maxRecDepth 65536 in
theorem codes_eq : words1.filter isCode = codes1 := rfl
theorem w_codes : ∀ c ∈ words1.filter isCode, c.before args0 about1 = true := by
  rw [codes_eq]
  intro c hc
  simp only [codes1, List.mem_cons, List.not_mem_nil, or_false] at hc
  rcases hc with rfl | rfl | rfl
  · exact w_c0
  · exact w_c1
  · exact w_c2
set_option maxRecDepth 65536 in
theorem w_t1 : words1.all (fun c => isCode c || c.before args0 about1) = true := by decide +kernel
theorem w_tables : (allAtoms (Jvm.Cond.code x code maxLocals ret :: tables_1)).before args0 about1 = true := by
  rw [allAtoms_all]
  show words1.all (fun c => c.before args0 about1) = true
  refine all_split ?_ w_codes
  rw [w_t1]
set_option maxRecDepth 65536 in
theorem w_case : (Jvm.Cond.and given_1 narrow_1).before args0 about1 = true := by decide +kernel
theorem w_applies : (headSpec (Jvm.Cond.code x code maxLocals ret :: tables_1) room_1).applies x e0.platform about1 = true :=
  (Spec.applies_iff w_frames).mpr ⟨w_running, w_runnable, w_alone, w_named, w_hears, w_ripe, w_room, w_tables⟩
theorem atStart : AtStart classFile x code maxLocals ret World_1 tables_1 room_1 Calls_1 rest_1 Pre_1 launch0 p0 e0 about1 theMethod args0 below0 :=
  ⟨lists_1, trivial, launch0.admits_env _ _ _, launch0.least_env, fairChoices_fair.cas, fairChoices_fair.clock, w_frames, w_args, w_heap, w_applies, trivial, trivial, w_case⟩
end start1
theorem witness_1 : WitnessClaimed_1 := ⟨start1.p0, start1.e0, start1.about1, start1.theMethod, start1.args0, start1.below0, start1.atStart⟩
end Jvm.Pilot.@@N@@
